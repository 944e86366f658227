import PyProof.Rows.All
import Wide.All
import OpenK.AllK
import Wide.FinOn
import PySem.Challenge.RW_wz0018_01
set_option autoImplicit true
set_option relaxedAutoImplicit true
set_option maxRecDepth 100000
set_option tactic.hygienic false
set_option linter.all false
set_option genSizeOf false
set_option compiler.extract_closed false
set_option maxHeartbeats 8000000
namespace Mine
def tK : Lean.Syntax := .node .none `Lean.Parser.Tactic.tacticSeq #[.node .none `Lean.Parser.Tactic.tacticSeq1Indented #[.node .none `null #[.node .none `PyProof.Rows.tacticKernel_rfl! #[.atom .none "kernel_rfl!"]]]]
def nS (k : Lean.Name) (xs : Array Lean.Syntax) : Lean.Syntax := .node .none k xs
def aS (s : String) : Lean.Syntax := .atom .none s
def sS (xs : Array Lean.Syntax) : Lean.Syntax := nS `Lean.Parser.Tactic.tacticSeq #[nS `Lean.Parser.Tactic.tacticSeq1Indented #[nS `null xs]]
def rS : Lean.Syntax := nS `Lean.Parser.Tactic.tacticRfl #[aS "rfl"]
def iS : Lean.Syntax := nS `Lean.Parser.Tactic.intros #[aS "intros", nS `null #[]]
def tR : Lean.Syntax := sS #[rS]
def tD : Lean.Syntax := sS #[nS `Lean.Parser.Tactic.decide #[aS "decide", nS `Lean.Parser.Tactic.optConfig #[nS `null #[]]]]
def tIs : Lean.Syntax := sS #[iS, aS ";", rS]
def tO : Lean.Syntax := sS #[nS `Lean.Parser.Tactic.intro #[aS "intro", nS `null #[nS `Lean.Parser.Term.hole #[aS "_"], nS `Lean.Parser.Term.hole #[aS "_"]]], aS ";", nS `Lean.Parser.Tactic.exact #[aS "exact", nS `Lean.Parser.Term.anonymousCtor #[aS "⟨", nS `null #[nS `Lean.Parser.Term.hole #[aS "_"], aS ",", .ident .none "rfl".toRawSubstring `rfl []], aS "⟩"]]]
def tSi : Lean.Syntax := sS #[nS `Lean.Parser.Tactic.simp #[aS "simp", nS `Lean.Parser.Tactic.optConfig #[nS `null #[]], nS `null #[], nS `null #[], nS `null #[], nS `null #[]]]
def tWu : Lean.Syntax := sS #[nS `Lean.Parser.Tactic.withUnfoldingAll #[aS "with_unfolding_all", sS #[rS]]]
open PySem PySem.W PyProof.Rows PySem.SeqAt List Nat Int
abbrev Sl:=@PySem.F.slot_tuple_iterator_next
abbrev Sn:=@Int.mul_le_mul_of_nonneg_right
abbrev Sq:=@List.take_append_of_le_length
abbrev Sr:=@List.eq_nil_of_length_eq_zero
abbrev Ss:=@PyProof.Rows.callWith_type1
abbrev Su:=@List.getD_eq_getElem?_getD
abbrev Sv:=@Int.ofNat_natAbs_of_nonpos
abbrev Sz:=@Int.fmod_eq_emod_of_nonneg
abbrev SA:=@Array.getElem?_eq_some_iff
abbrev SD:=@Int.fdiv_eq_ediv_of_nonneg
abbrev SE:=@List.getElem?_append_right
abbrev SF:=@List.getElem?_eq_some_iff
abbrev SG:=@List.drop_eq_getElem_cons
abbrev SH:=@Classical.byContradiction
abbrev SI:=@List.getElem?_zip_eq_some
abbrev SJ:=@Array.getElem?_eq_getElem
abbrev SK:=@List.getElem?_eq_getElem
abbrev SM:=@Option.isSome_iff_exists
abbrev SN:=@_root_.decide_eq_false_iff_not
abbrev SO:=@List.length_eq_zero_iff
abbrev SP:=@PySem.wpAny_callSpecial?_slot
abbrev SQ:=@PySem.F.plainAttrs_list
abbrev SR:=@PySem.Heap.get?_push_of_some
abbrev SS:=@Option.map_eq_some_iff
abbrev SU:=@List.take_of_length_le
abbrev SV:=@List.drop_of_length_le
abbrev SW:=@List.find?_cons_of_neg
abbrev SX:=@Nat.lt_of_add_right_lt
abbrev SY:=@PySem.wpAny_Call_method_late
abbrev S8:=@PySem.Heap.get?_update_other
abbrev S9:=@List.filter_eq_nil_iff
abbrev Tc:=@Nat.le_of_ble_eq_true
abbrev Td:=@List.length_filter_le
abbrev Te:=@List.length_singleton
abbrev Tf:=@List.mem_append_right
abbrev Tg:=@List.getElem?_eq_none
abbrev Th:=@List.singleton_append
abbrev Ti:=@List.take_append_drop
abbrev Tj:=@List.count_cons_of_ne
abbrev Tn:=@PySem.F.slot_zip_next
abbrev To:=@List.mem_of_getElem?
abbrev Tq:=@List.getElem?_set_ne
abbrev Tr:=@List.mem_append_left
abbrev Tt:=@Int.sub_nonneg_of_le
abbrev Tu:=@List.mem_iff_getElem
abbrev Tv:=@Int.natAbs_of_nonneg
abbrev Tx:=@List.contains_eq_mem
abbrev Tz:=@List.length_dropLast
abbrev TA:=@Nat.sub_succ_lt_self
abbrev TB:=@List.mem_cons_of_mem
abbrev TC:=@List.mem_of_mem_take
abbrev TF:=@Int.lt_of_add_one_le
abbrev TG:=@PySem.Heap.get?_push_size
abbrev TH:=@_root_.beq_eq_false_iff_ne
abbrev TJ:=@Int.toNat_of_nonneg
abbrev TK:=@List.map_congr_left
abbrev TL:=@List.getElem?_range
abbrev TM:=@List.flatMap_append
abbrev TN:=@List.length_pos_iff
abbrev TP:=@List.mem_map_of_mem
abbrev TQ:=@Int.toNat_of_nonpos
abbrev TR:=@List.mergeSort_perm
abbrev TS:=@PySem.Heap.SameBut.update
abbrev TU:=@List.length_append
abbrev TV:=@Nat.lt_of_le_of_lt
abbrev TX:=@List.mem_singleton
abbrev TY:=@Int.natCast_nonneg
abbrev TZ:=@Nat.lt_of_lt_of_le
abbrev T1:=@Nat.lt_of_lt_of_eq
abbrev T4:=@List.filter_append
abbrev T7:=@List.pairwise_cons
abbrev T8:=@Bool.false_eq_true
abbrev T9:=@List.count_eq_zero
abbrev Ua:=@PySem.wpAny_setField_rec
abbrev Ub:=@List.mem_cons_self
abbrev Uc:=@List.getElem?_map
abbrev Ud:=@List.size_toArray
abbrev Ue:=@_root_.decide_eq_true_eq
abbrev Ug:=@List.take_add_one
abbrev Uh:=@List.append_assoc
abbrev Ui:=@List.foldl_append
abbrev Uj:=@Nat.lt_succ_of_lt
abbrev Uk:=@List.getElem?_set
abbrev Ul:=@List.pairwise_map
abbrev Um:=@List.flatMap_cons
abbrev Un:=@Bool.not_eq_true'
abbrev Uo:=@PySem.wpAny_newObj_type
abbrev Uq:=@List.nodup_append
abbrev Ur:=@List.count_append
abbrev Us:=@Nat.lt_of_succ_le
abbrev Ut:=@Int.toNat_natCast
abbrev Uu:=@_root_.bne_self_eq_false
abbrev Uv:=@List.length_range
abbrev Uw:=@Bool.and_eq_true
abbrev Ux:=@List.length_cons
abbrev Uy:=@List.filter_cons
abbrev Uz:=@List.not_mem_nil
abbrev UA:=@List.take_length
abbrev UB:=@Nat.le_add_right
abbrev UC:=@List.length_take
abbrev UD:=@_root_.decide_eq_decide
abbrev UE:=@List.all_eq_true
abbrev UG:=@Nat.lt_succ_self
abbrev UH:=@List.getElem_mem
abbrev UI:=@List.mem_flatMap
abbrev UJ:=@Nat.le_of_not_lt
abbrev UK:=@PySem.wpAny_items_cons
abbrev UL:=@List.lookup_cons
abbrev UM:=@Nat.min_eq_right
abbrev UN:=@Nat.le_of_not_ge
abbrev UO:=@List.length_drop
abbrev UP:=@List.nil_sublist
abbrev UQ:=@PySem.wpAny_call_entry
abbrev UR:=@List.any_eq_true
abbrev US:=@List.length_map
abbrev UT:=@List.map_append
abbrev UU:=@List.mem_append
abbrev UW:=@List.mem_filter
abbrev UX:=@List.append_nil
abbrev UY:=@List.foldl_cons
abbrev UZ:=@List.nodup_cons
abbrev U0:=@Bool.or_eq_true
abbrev U1:=@_root_.decide_eq_false
abbrev U2:=@Nat.le_add_left
abbrev U3:=@Nat.min_eq_left
abbrev U4:=@List.range_succ
abbrev U5:=@Nat.not_lt_zero
abbrev U6:=@PySem.wpAny_loadPart'
abbrev U7:=@List.length_nil
abbrev U8:=@PySem.wpAny_items_nil
abbrev U9:=@List.filter_nil
abbrev Vi:=@PySem.pushCells_keeps
abbrev Vj:=@PyProof.Rows.get?_update_seq
abbrev Vk:=@_root_.decide_eq_true
abbrev Vl:=@PySem.Heap.size_push
abbrev Vm:=@List.mem_range
abbrev Vn:=@Nat.mul_div_le
abbrev Vo:=@PySem.W.cellsFrom_some
abbrev Vp:=@List.drop_zero
abbrev Vq:=@PySem.wpAny_seqItems
abbrev Vr:=@List.mem_cons
abbrev Vt:=@List.map_cons
abbrev Vu:=@List.all_cons
abbrev Vv:=@List.sum_cons
abbrev Vw:=@Nat.lt_irrefl
abbrev Vx:=@PySem.wpAny_holding
abbrev Vy:=@PySem.wpAny_standAt
abbrev Vz:=@Nat.le_trans
abbrev VA:=@List.map_map
abbrev VB:=@List.mem_map
abbrev VC:=@Nat.succ_pos
abbrev VD:=@PySem.Heap.lt_size
abbrev VE:=@Nat.le_of_lt
abbrev VF:=@Int.zero_add
abbrev VG:=@List.map_nil
abbrev VH:=@Nat.le_of_eq
abbrev VI:=@Int.ofNat_le
abbrev VJ:=@List.sum_nil
abbrev VK:=@Int.le_of_lt
abbrev VL:=@Nat.ne_of_lt
abbrev VM:=@Int.add_zero
abbrev VN:=@Int.ofNat_lt
abbrev VO:=@Nat.zero_le
abbrev VP:=@Nat.le_refl
abbrev VQ:=@PySem.wpAny_field
abbrev VR:=@PySem.sizeLine_eq
abbrev VS:=@Nat.le_succ
abbrev VT:=@Int.le_refl
abbrev VU:=@PySem.wpAny_bind
abbrev VV:=@PySem.wpAny_pure
abbrev VW:=@PySem.wpAny_mono
abbrev VX:=@_root_.beq_iff_eq
abbrev VY:=@PySem.wpAny_Name
abbrev VZ:=@Nat.mod_lt
abbrev V0:=@Int.not_lt
abbrev V1:=@Nat.not_lt
abbrev V2:=@_root_.bne_iff_ne
abbrev V3:=@Eq.trans
abbrev V4:=@_root_.congrArg
abbrev V5:=@_root_.or_false
abbrev V6:=@_root_.if_false
abbrev V7:=@Eq.symm
abbrev V8:=@_root_.if_true
abbrev V9:=@Ne.symm
theorem Wa:True:=trivial
local macro_rules | `(tactic|z_go)=> `(tactic|kernel_rfl!)
section
set_option genSizeOf false
set_option genInjectivity false
inductive Ax|v(i:Nat)|w(i:Nat)|c(k:Nat)|a(x y:Ax)|s(x y:Ax)|m(k:Nat)(x:Ax)|r(x:Ax)(k:Nat)|i(x y:Ax)|j(x y:Ax)|g(x:Ax)|o(x:Ax)
inductive Ap|l(x y:Ax)|e(x y:Ax)|q(x y:Ax)|L(x y:Ax)|E(x y:Ax)|Q(x y:Ax)|n(p:Ap)|a(p q:Ap)|o(p q:Ap)|i(p q:Ap)|b(p q:Ap)|f
noncomputable def mQ(N:List Nat):Ax->Nat
 |.v i=>N.getD i 0
 |.c k=>k
 |.a x y=>mQ N x+mQ N y
 |.s x y=>mQ N x - mQ N y
 |.m k x=>k*mQ N x
 |.r x k=>mQ N x*k
 |.i x y=>min (mQ N x) (mQ N y)
 |.j x y=>max (mQ N x) (mQ N y)
 |.w _=>0
 |.g _=>0
 |.o x=>mQ N x
noncomputable def qY(N:List Nat)(Z:List Int):Ax->Int
 |.w i=>Z.getD i 0
 |.c k=>(k:Int)
 |.a x y=>qY N Z x+qY N Z y
 |.s x y=>qY N Z x - qY N Z y
 |.m k x=>(k:Int)*qY N Z x
 |.r x k=>qY N Z x*(k:Int)
 |.i x y=>min (qY N Z x) (qY N Z y)
 |.j x y=>max (qY N Z x) (qY N Z y)
 |.g x=> - qY N Z x
 |.o x=>(mQ N x:Int)
 |.v i=>(N.getD i 0:Nat)
noncomputable def qZ(N:List Nat)(Z:List Int):Ap->Prop
 |.l x y=>mQ N x<mQ N y
 |.e x y=>mQ N x<=mQ N y
 |.q x y=>mQ N x=mQ N y
 |.L x y=>qY N Z x<qY N Z y
 |.E x y=>qY N Z x<=qY N Z y
 |.Q x y=>qY N Z x=qY N Z y
 |.n p=>¬qZ N Z p
 |.a p q=>qZ N Z p/\qZ N Z q
 |.o p q=>qZ N Z p\/qZ N Z q
 |.i p q=>qZ N Z p->qZ N Z q
 |.b p q=>qZ N Z p↔qZ N Z q
 |.f=>False
noncomputable def yA(N:List Nat)(Z:List Int)(g:Ap):List Ap->Prop
 |[]=>qZ N Z g
 |h::hs=>qZ N Z h->yA N Z g hs
noncomputable abbrev Lf:=Int×List Int
noncomputable def qT:List Int->(Nat->Int)->Int
 |[],_=>0
 |c::lP,e=>c*e 0+qT lP (λi=>e (i+1))
noncomputable def iZ(f:Lf)(e:Nat->Int):Int:=f.1+qT f.2 e
noncomputable def sV:List Int->List Int->List Int
 |[],b=>b
 |a::as,[]=>a::as
 |a::as,b::bs=>(a+b)::sV as bs
noncomputable def sJ(k:Int):List Int->List Int
 |[]=>[]
 |a::as=>(k*a)::sJ k as
noncomputable def Hu:Nat->List Int
 |0=>[1]
 |n+1=>0::Hu n
noncomputable def sW(f g:Lf):Lf:=(f.1+g.1,sV f.2 g.2)
noncomputable def mI(k:Int)(f:Lf):Lf:=(k*f.1,sJ k f.2)
noncomputable def gG(f g:Lf):Lf:=sW f (mI (-1) g)
noncomputable def xq(k:Int):Lf:=(k,[])
def m4(a b c d:Int):a+b+(c+d)=a+c+(b+d):=by rw[Int.add_assoc,Int.add_left_comm b,<-Int.add_assoc]
def Gu(a:List Int):∀(b:List Int) (e:Nat->Int),qT (sV a b) e=qT a e+qT b e:=by
 induction a with
 |nil=>intro b e;exact(VF _).symm
 |cons x xs ih=>
  intro b e
  cases b with
  |nil=>exact(VM _).symm
  |cons y ys=>show(x+y)*e 0+qT (sV xs ys) _=x*e 0+qT xs _+(y*e 0+qT ys _);rw[ih,Int.add_mul];exact m4 ..
def Gq(k:Int)(a:List Int):∀(e:Nat->Int),qT (sJ k a) e=k*qT a e:=by
 induction a with
 |nil=>intro e;exact(Int.mul_zero _).symm
 |cons x xs ih=>intro e;show k*x*e 0+qT (sJ k xs) _=k*(x*e 0+qT xs _);rw[ih,Int.mul_add,Int.mul_assoc]
def rA(n:Nat):∀(e:Nat->Int),qT (Hu n) e=e n:=by
 induction n with
 |zero=>intro e;exact(VM _).trans (Int.one_mul _)
 |succ n ih=>intro e;show 0*e 0+qT (Hu n) _=e (n+1);rw[ih,Int.zero_mul,VF]
def uT(f g:Lf)(e:Nat->Int):iZ (sW f g) e=iZ f e+iZ g e:=by show f.1+g.1+qT (sV f.2 g.2) e=f.1+qT f.2 e+(g.1+qT g.2 e);rw[Gu];exact m4 ..
def l0(k:Int)(f:Lf)(e:Nat->Int):iZ (mI k f) e=k*iZ f e:=by show k*f.1+qT (sJ k f.2) e=k*(f.1+qT f.2 e);rw[Gq,Int.mul_add]
def fg(f g:Lf)(e:Nat->Int):iZ (gG f g) e=iZ f e - iZ g e:=by show iZ (sW f (mI (-1) g)) e=_;rw[uT,l0,Int.neg_one_mul];exact Int.sub_eq_add_neg.symm
def oa(k:Int)(e:Nat->Int):iZ (xq k) e=k:=VM k
noncomputable abbrev rY:=List Lf×Lf
noncomputable def IE(k:rY->rY->List rY)(a b:List rY):List rY:=a.flatMap λx=>b.flatMap λy=>k x y
noncomputable def lS(z:Bool):Ax->List rY
 |.v i=>[([],(0,Hu (2*i)))]
 |.w i=>[([],bif z then(0,Hu (2*i+1))else xq 0)]
 |.c k=>[([],xq k)]
 |.a x y=>IE (λx y=>[(x.1++y.1,sW x.2 y.2)]) (lS z x) (lS z y)
 |.s x y=>IE (λx y=>bif z then[(x.1++y.1,gG x.2 y.2)]else[(gG x.2 y.2::(x.1++y.1),gG x.2 y.2),(gG y.2 x.2::(x.1++y.1),xq 0)]) (lS z x) (lS z y)
 |.m k x=>(lS z x).map λo=>(o.1,mI k o.2)
 |.r x k=>(lS z x).map λo=>(o.1,mI k o.2)
 |.i x y=>IE (λx y=>[(gG y.2 x.2::(x.1++y.1),x.2),(gG x.2 y.2::(x.1++y.1),y.2)]) (lS z x) (lS z y)
 |.j x y=>IE (λx y=>[(gG y.2 x.2::(x.1++y.1),y.2),(gG x.2 y.2::(x.1++y.1),x.2)]) (lS z x) (lS z y)
 |.g x=>(lS z x).map λo=>(o.1,bif z then mI (-1) o.2 else xq 0)
 |.o x=>lS false x
noncomputable def kN(l:List Lf)(e:Nat->Int):Prop:=∀f∈l,0<=iZ f e
noncomputable def kO(l:List rY)(z:Int)(e:Nat->Int):Prop:=∃o∈l,kN o.1 e/\iZ o.2 e=z
noncomputable def vO(N:List Nat)(Z:List Int)(n:Nat):Int:=if n%2=0 then(N.getD (n/2) 0:Nat)else Z.getD (n/2) 0
def JE(N:List Nat)(Z:List Int)(i:Nat):vO N Z (2*i)=(N.getD i 0:Nat):=by unfold vO;rw[if_pos (mul_mod_right 2 i),Nat.mul_div_cancel_left i (by decide)]
def NN(N:List Nat)(Z:List Int)(i:Nat):vO N Z (2*i+1)=Z.getD i 0:=by unfold vO;rw[if_neg (by rw[mul_add_mod];decide),mul_add_div (by decide)];rfl
noncomputable def xh(z:Bool)(N:List Nat)(Z:List Int)(x:Ax):Int:=bif z then qY N Z x else(mQ N x:Int)
def jG{a b:List Lf}{e:Nat->Int}(h:kN a e)(k:kN b e):kN (a++b) e:=λf hf=>(UU.mp hf).elim (h f) (k f)
def fE{f:Lf}{b:List Lf}{e:Nat->Int}(h:0<=iZ f e)(k:kN b e):kN (f::b) e:=forall_mem_cons.mpr ⟨h,k⟩
def rg{c:List Lf}{f:Lf}{z:Int}{e:Nat->Int}(h:kN c e)(k:iZ f e=z):kO [(c,f)] z e:=⟨_,.head _,h,k⟩
def zJ{c:List Lf}{f:Lf}{l:List rY}{z:Int}{e:Nat->Int}(h:kN c e)(k:iZ f e=z):kO ((c,f)::l) z e:=⟨_,.head _,h,k⟩
def zI{o:rY}{l:List rY}{z:Int}{e:Nat->Int}(h:kO l z e):kO (o::l) z e:=h.elim λp hp=>⟨p,.tail _ hp.1,hp.2⟩
def has_both{k:rY->rY->List rY}{a b:List rY}{x y z:Int}{e:Nat->Int}(h:kO a x e)(h':kO b y e)(hk:∀o p:rY,kN (o.1++p.1) e->iZ o.2 e=x->iZ p.2 e=y->kO (k o p) z e):kO (IE k a b) z e:=
 h.elim λo ho=>h'.elim λp hp=>(hk o p (jG ho.2.1 hp.2.1) ho.2.2 hp.2.2).elim λq hq=>⟨q,UI.mpr ⟨o,ho.1,UI.mpr ⟨p,hp.1,hq.1⟩⟩,hq.2⟩
def nj{f:Lf->Lf}{a:List rY}{x z:Int}{e:Nat->Int}(h:kO a x e)(hk:∀o:Lf,iZ o e=x->iZ (f o) e=z):kO (a.map λo=>(o.1,f o.2)) z e:=
 h.elim λo ho=>⟨_,VB.mpr ⟨o,ho.1,rfl⟩,ho.2.1,hk _ ho.2.2⟩
def PU(a b:Nat):((min a b:Nat):Int)=min (a:Int) b:=by
 rcases Nat.le_total a b with q|q
 .rw[U3 q,Int.min_eq_left (VI.mpr q)]
 rw[UM q,Int.min_eq_right (VI.mpr q)]
def PQ(a b:Nat):((max a b:Nat):Int)=max (a:Int) b:=by
 rcases Nat.le_total a b with q|q
 .rw[Nat.max_eq_right q,Int.max_eq_right (VI.mpr q)]
 rw[Nat.max_eq_left q,Int.max_eq_left (VI.mpr q)]
def EP(N:List Nat)(Z:List Int)(x:Ax):∀z,kO (lS z x) (xh z N Z x) (vO N Z):=by
 induction x with
 |v i=>intro z;exact rg (λ_ h=>nomatch h) ((VF _).trans ((rA _ _).trans (by rw[JE];cases z<;>rfl)))
 |w i=>intro z;cases z with
  |false=>exact rg (λ_ h=>nomatch h) (oa 0 _)
  |true=>exact rg (λ_ h=>nomatch h) ((VF _).trans ((rA _ _).trans (NN N Z i)))
 |c k=>intro z;exact rg (λ_ h=>nomatch h) ((oa k _).trans (by cases z<;>rfl))
 |a x y ih aU=>intro z;exact has_both (ih z) (aU z) λo p h a b=>rg h (by rw[uT,a,b];cases z<;>rfl)
 |s x y ih aU=>
  intro z;refine has_both (ih z) (aU z) λo p h a b=>?_
  cases z with
  |true=>exact rg h (by rw[fg,a,b];rfl)
  |false=>
   have a':iZ o.2 (vO N Z)=(mQ N x:Int):=a;have b':iZ p.2 (vO N Z)=(mQ N y:Int):=b;show kO _ ((mQ N x - mQ N y:Nat):Int) _;rcases Nat.le_total (mQ N y) (mQ N x)with q|q
   .exact zJ (fE (by rw[fg,a',b'];exact Tt (VI.mpr q)) h) (by rw[fg,a',b'];exact(ofNat_sub q).symm)
   exact zI (rg (fE (by rw[fg,a',b'];exact Tt (VI.mpr q)) h) (by rw[oa,Nat.sub_eq_zero_of_le q];rfl))
 |m k x ih=>intro z;exact nj (ih z) λo h=>by rw[l0,h];cases z<;>rfl
 |r x k ih=>intro z;exact nj (ih z) λo h=>by rw[l0,h,Int.mul_comm];cases z<;>rfl
 |i x y ih aU=>
  intro z;refine has_both (ih z) (aU z) λo p h a b=>?_;have e:xh z N Z (.i x y)=min (xh z N Z x) (xh z N Z y):=by cases z;exact PU ..;rfl
  rw[e];rcases Int.le_total (xh z N Z x) (xh z N Z y)with q|q
  .exact zJ (fE (by rw[fg,a,b];exact Tt q) h) (a.trans (Int.min_eq_left q).symm)
  exact zI (rg (fE (by rw[fg,a,b];exact Tt q) h) (b.trans (Int.min_eq_right q).symm))
 |j x y ih aU=>
  intro z;refine has_both (ih z) (aU z) λo p h a b=>?_;have e:xh z N Z (.j x y)=max (xh z N Z x) (xh z N Z y):=by cases z;exact PQ ..;rfl
  rw[e];rcases Int.le_total (xh z N Z x) (xh z N Z y)with q|q
  .exact zJ (fE (by rw[fg,a,b];exact Tt q) h) (b.trans (Int.max_eq_right q).symm)
  exact zI (rg (fE (by rw[fg,a,b];exact Tt q) h) (a.trans (Int.max_eq_left q).symm))
 |g x ih=>
  intro z;cases z with
  |false=>exact nj (ih false) λo h=>oa 0 _
  |true=>exact nj (z:= - qY N Z x) (ih true) λo h=>by rw[l0,h];exact Int.neg_one_mul _
 |o x ih=>intro z;have:=ih false;cases z<;>exact this
noncomputable def sC(k:Lf->Lf->List (List Lf))(a b:List rY):List (List Lf):=a.flatMap λx=>b.flatMap λy=>(k x.2 y.2).map λc=>c++(x.1++y.1)
noncomputable def xj(x y:Lf):List (List Lf):=[[gG (gG y x) (xq 1)]]
noncomputable def CN(x y:Lf):List (List Lf):=[[gG y x]]
noncomputable def Ga(x y:Lf):List (List Lf):=[[gG y x,gG x y]]
noncomputable def Jz(x y:Lf):List (List Lf):=CN y x
noncomputable def Jy(x y:Lf):List (List Lf):=xj y x
noncomputable def FJ(x y:Lf):List (List Lf):=xj x y++xj y x
noncomputable def DV(a b:List (List Lf)):List (List Lf):=a.flatMap λx=>b.map λy=>x++y
noncomputable def lP:Bool->Ap->List (List Lf)
 |b,.l x y=>sC (bif b then xj else Jz) (lS false x) (lS false y)
 |b,.e x y=>sC (bif b then CN else Jy) (lS false x) (lS false y)
 |b,.q x y=>sC (bif b then Ga else FJ) (lS false x) (lS false y)
 |b,.L x y=>sC (bif b then xj else Jz) (lS true x) (lS true y)
 |b,.E x y=>sC (bif b then CN else Jy) (lS true x) (lS true y)
 |b,.Q x y=>sC (bif b then Ga else FJ) (lS true x) (lS true y)
 |b,.n p=>lP (!b) p
 |true,.a p q=>DV (lP true p) (lP true q)
 |false,.a p q=>lP false p++lP false q
 |true,.o p q=>lP true p++lP true q
 |false,.o p q=>DV (lP false p) (lP false q)
 |true,.i p q=>lP false p++lP true q
 |false,.i p q=>DV (lP true p) (lP false q)
 |true,.b p q=>DV (lP true p) (lP true q)++DV (lP false p) (lP false q)
 |false,.b p q=>DV (lP true p) (lP false q)++DV (lP false p) (lP true q)
 |true,.f=>[]
 |false,.f=>[[]]
noncomputable def jj(l:List (List Lf))(e:Nat->Int):Prop:=∃c∈l,kN c e
def CB{c:List Lf}{e:Nat->Int}(h:kN c e):jj [c] e:=⟨c,.head _,h⟩
def FE{f:Lf}{e:Nat->Int}(h:0<=iZ f e):kN [f] e:=λg hg=>by rw[TX.mp hg];exact h
def pT{a b:List (List Lf)}{e:Nat->Int}(h:jj a e):jj (a++b) e:=h.elim λc hc=>⟨c,Tr _ hc.1,hc.2⟩
def pS{a b:List (List Lf)}{e:Nat->Int}(h:jj b e):jj (a++b) e:=h.elim λc hc=>⟨c,Tf _ hc.1,hc.2⟩
def gw{a b:List (List Lf)}{e:Nat->Int}(h:jj a e)(h':jj b e):jj (DV a b) e:=
 h.elim λc hc=>h'.elim λd xf=>⟨c++d,UI.mpr ⟨c,hc.1,VB.mpr ⟨d,xf.1,rfl⟩⟩,jG hc.2 xf.2⟩
def Gy{k:Lf->Lf->List (List Lf)}{a b:List rY}{x y:Int}{e:Nat->Int}(h:kO a x e)(h':kO b y e)(hk:∀f g:Lf,iZ f e=x->iZ g e=y->jj (k f g) e):jj (sC k a b) e:=
 h.elim λo ho=>h'.elim λp hp=>(hk o.2 p.2 ho.2.2 hp.2.2).elim λc hc=>⟨_,UI.mpr ⟨o,ho.1,UI.mpr ⟨p,hp.1,VB.mpr ⟨c,hc.1,rfl⟩⟩⟩,jG hc.2 (jG ho.2.1 hp.2.1)⟩
def pY{f g:Lf}{e:Nat->Int}(h:iZ f e<iZ g e):jj (xj f g) e:=CB (FE (by rw[fg,fg,oa];exact Int.le_sub_one_of_lt (Int.sub_pos_of_lt h)))
def vV{f g:Lf}{e:Nat->Int}(h:iZ f e<=iZ g e):jj (CN f g) e:=CB (FE (by rw[fg];exact Tt h))
def ER{f g:Lf}{e:Nat->Int}(h:iZ f e=iZ g e):jj (Ga f g) e:=CB (fE (by rw[fg];exact Tt (Int.le_of_eq h)) (FE (by rw[fg];exact Tt (Int.le_of_eq h.symm))))
def Ek{f g:Lf}{e:Nat->Int}(h:iZ f e≠iZ g e):jj (FJ f g) e:=(Int.lt_or_gt_of_ne h).elim (λh=>pT (pY h)) λh=>pS (pY h)
def KN(N:List Nat)(Z:List Int)(p:Ap):∀b,(bif b then qZ N Z p else¬qZ N Z p)->jj (lP b p) (vO N Z):=by
 have A:∀(z:Bool) (x y:Ax) (k:Lf->Lf->List (List Lf)),(∀f g:Lf,iZ f (vO N Z)=xh z N Z x->iZ g (vO N Z)=xh z N Z y->jj (k f g) (vO N Z))->jj (sC k (lS z x) (lS z y)) (vO N Z):=λz x y k h=>Gy (EP N Z x z) (EP N Z y z) h;induction p with
 |l x y=>intro b h;cases b with
  |true=>exact A _ _ _ _ λf g a c=>pY (by rw[a,c];exact VN.mpr h)
  |false=>exact A _ _ _ _ λf g a c=>vV (by rw[a,c];exact VI.mpr (UJ h))
 |e x y=>intro b h;cases b with
  |true=>exact A _ _ _ _ λf g a c=>vV (by rw[a,c];exact VI.mpr h)
  |false=>exact A _ _ _ _ λf g a c=>pY (by rw[a,c];exact VN.mpr (Nat.lt_of_not_le h))
 |q x y=>intro b h;cases b with
  |true=>exact A _ _ _ _ λf g a c=>ER (by rw[a,c];exact V4 ofNat h)
  |false=>exact A _ _ _ _ λf g a c=>Ek (by rw[a,c];exact λq=>h (ofNat.inj q))
 |L x y=>intro b h;cases b with
  |true=>exact A _ _ _ _ λf g a c=>pY (by rw[a,c];exact h)
  |false=>exact A _ _ _ _ λf g a c=>vV (by rw[a,c];exact V0.mp h)
 |E x y=>intro b h;cases b with
  |true=>exact A _ _ _ _ λf g a c=>vV (by rw[a,c];exact h)
  |false=>exact A _ _ _ _ λf g a c=>pY (by rw[a,c];exact Int.not_le.mp h)
 |Q x y=>intro b h;cases b with
  |true=>exact A _ _ _ _ λf g a c=>ER (by rw[a,c];exact h)
  |false=>exact A _ _ _ _ λf g a c=>Ek (by rw[a,c];exact h)
 |n p ih=>intro b h;cases b with
  |true=>exact ih false h
  |false=>exact ih true (Classical.not_not.mp h)
 |a p q ih aU=>intro b h;cases b with
  |true=>exact gw (ih true h.1) (aU true h.2)
  |false=>exact(Classical.em (qZ N Z p)).elim (λk=>pS (aU false λk'=>h ⟨k,k'⟩)) λk=>pT (ih false k)
 |o p q ih aU=>intro b h;cases b with
  |true=>exact Or.elim h (λk=>pT (ih true k)) λk=>pS (aU true k)
  |false=>exact gw (ih false λk=>h (.inl k)) (aU false λk=>h (.inr k))
 |i p q ih aU=>intro b h;cases b with
  |true=>exact(Classical.em (qZ N Z p)).elim (λk=>pS (aU true (h k))) λk=>pT (ih false k)
  |false=>exact gw (ih true (SH λk=>h λk'=>absurd k' k)) (aU false λk=>h λ_=>k)
 |b p q ih aU=>intro b h;cases b with
  |true=>exact(Classical.em (qZ N Z p)).elim (λk=>pT (gw (ih true k) (aU true (h.mp k)))) λk=>pS (gw (ih false k) (aU false λk'=>k (h.mpr k')))
  |false=>exact(Classical.em (qZ N Z p)).elim (λk=>pT (gw (ih true k) (aU false λk'=>h ⟨λ_=>k',λ_=>k⟩))) λk=>pS (gw (ih false k) (aU true (SH λk'=>h ⟨λx=>absurd x k,λx=>absurd x k'⟩)))
 |f=>intro b h;cases b with
  |true=>exact False.elim h
  |false=>exact CB λ_ h=>nomatch h
noncomputable def xf(f:Lf):Int:=f.2.headD 0
noncomputable def K9(f:Lf):Lf:=(f.1,f.2.tail)
def Ep(f:Lf)(e:Nat->Int):iZ f e=xf f*e 0+iZ (K9 f) λi=>e (i+1):=by
 obtain⟨k,lP⟩:=f
 cases lP with
 |nil=>show k+0=0*e 0+(k+0);rw[Int.zero_mul,VF]
 |cons c lP=>exact Int.add_left_comm ..
noncomputable def Pd(p n:Lf):Lf:=sW (mI (- xf n) (K9 p)) (mI (xf p) (K9 n))
noncomputable def MQ:Nat->List Lf->Bool
 |0,l=>l.any λf=>f.2.isEmpty&&decide (f.1<0)
 |n+1,l=>MQ n ((l.filter λf=>decide (xf f=0)).map K9++(l.filter λf=>decide (0<xf f)).flatMap λp=>(l.filter λf=>decide (xf f<0)).map (Pd p))
def KG(n:Nat):∀(l:List Lf) (e:Nat->Int),kN l e->MQ n l=false:=by
 induction n with
 |zero=>
  intro l e h;refine Bool.eq_false_iff.mpr λq=>?_;obtain⟨f,hf,q⟩:=UR.mp q;rw[Uw]at q;have:=h f hf;have e2:iZ f e=f.1:=by unfold iZ;rw[isEmpty_iff.mp q.1];exact VM _
  rw[e2]at this;exact absurd (of_decide_eq_true q.2) (V0.mpr this)
 |succ n ih=>
  intro l e h;refine ih _ (λi=>e (i+1)) (jG (λf hf=>?_) λf hf=>?_)
  .obtain⟨g,hg,q⟩:=VB.mp hf;subst q;have h1:=h g (UW.mp hg).1;rw[Ep,of_decide_eq_true (UW.mp hg).2,Int.zero_mul,VF]at h1;exact h1
  obtain⟨p,hp,q⟩:=UI.mp hf;obtain⟨g,hg,q⟩:=VB.mp q;subst q;have h1:=h p (UW.mp hp).1;have h2:=h g (UW.mp hg).1;have p1:0<xf p:=of_decide_eq_true (UW.mp hp).2;have g1:xf g<0:=of_decide_eq_true (UW.mp hg).2;rw[Ep]at h1 h2;unfold Pd;rw[uT,l0,l0];have m1:=Int.mul_nonneg (Int.neg_nonneg_of_nonpos (VK g1)) h1;have m2:=Int.mul_nonneg (VK p1) h2;have:=Int.add_nonneg m1 m2;rw[Int.mul_add,Int.mul_add,m4,<-Int.mul_assoc,<-Int.mul_assoc,<-Int.add_mul,Int.neg_mul,Int.mul_comm (xf g) (xf p),Int.add_left_neg,Int.zero_mul,VF]at this;exact this
noncomputable def mS(g:Ap):List Ap->Ap
 |[]=>g
 |h::hs=>.i h (mS g hs)
noncomputable def Ma:Nat->List Lf
 |0=>[]
 |n+1=>(0,Hu (2*n))::Ma n
def GN(N:List Nat)(Z:List Int)(n:Nat):kN (Ma n) (vO N Z):=by
 induction n with
 |zero=>exact λ_ h=>nomatch h
 |succ n ih=>exact fE (by show 0<=0+_;rw[rA,JE,VF];exact TY _) ih
noncomputable def yN(n k:Nat)(p:Ap):Bool:=(lP false p).all λc=>MQ k (c++Ma n)
def Hq{n k:Nat}{p:Ap}(h:yN n k p=true)(N:List Nat)(Z:List Int):qZ N Z p:=
 SH λq=>(KN N Z p false q).elim λc hc=>by have:=UE.mp h c hc.1;rw[KG k _ (vO N Z) (jG hc.2 (GN N Z n))]at this;exact Bool.noConfusion this
def KL(N:List Nat)(Z:List Int)(g:Ap)(hs:List Ap):qZ N Z (mS g hs)->yA N Z g hs:=by
 induction hs with
 |nil=>exact id
 |cons h hs ih=>exact λk x=>ih (k x)
noncomputable def Va:Ax:=.v 0
noncomputable def Vb:Ax:=.v 1
noncomputable def Vc:Ax:=.v 2
noncomputable def Vd:Ax:=.v 3
noncomputable def Ve:Ax:=.v 4
noncomputable def Vf:Ax:=.v 5
noncomputable def Vg:Ax:=.v 6
noncomputable def Vh:Ax:=.v 7
noncomputable def Qa:Ax:=.w 0
noncomputable def Qb:Ax:=.w 1
noncomputable def Qc:Ax:=.w 2
noncomputable def Qd:Ax:=.w 3
noncomputable def K0:Ax:=.c 0
noncomputable def K1:Ax:=.c 1
noncomputable def K2:Ax:=.c 2
noncomputable def K3:Ax:=.c 3
noncomputable def K4:Ax:=.c 4
noncomputable def bA:Ax:=.o Va
noncomputable def f9:Ax:=.a Vb K1
noncomputable def pR:Ax:=.s bA (.o Vb)
noncomputable def fJ:Ax:=.a Va K1
noncomputable def yP:Ax:=.c 9223372036854775808
noncomputable def o9:Ax:=.c 1099511627776
noncomputable def kF:Ax:=.c 16777216
noncomputable def ew:Ax:=.o Vb
noncomputable def jd:Ax:=.s Va K1
noncomputable def yO:Ax:=.a (.a Va (.m 2 Vb)) Vc
noncomputable def nF:Ax:=.a Vb Vc
noncomputable def D5:Ax:=.c 1208925819614629174706176
noncomputable def Ck:Ax:=.c 4611686018427387904
noncomputable def ra:Ax:=.c 1048576
noncomputable def Fz:Ax:=.m 2 (.s (.o fJ) (.o f9))
noncomputable def nE:Ap:=.l Va Vb
noncomputable def pQ:Ax:=.a Va f9
noncomputable def q9:Ap:=.L Qa Qb
noncomputable def q8:Ax:=.a Vc K1
noncomputable def pj:Ax:=.c 1000
noncomputable def se:Ap:=.q Va Vb
noncomputable def sd:Ax:=.a Va Vb
noncomputable def HV:Ax:=.c 1152921504606846976
noncomputable def uo:Ax:=.a Vd K1
noncomputable def ux:Ax:=.s Vb Va
noncomputable def uw:Ax:=.m 2 pR
noncomputable def IF:Ax:=.c 1180591620717411303424
noncomputable def LK:Ax:=.a (.a Va nF) (.m 21 (.s K3 Vd))
noncomputable def pP:Ax:=.g bA
noncomputable def LJ:Ax:=.a (.a Va nF) (.m 9 (.s K3 Vd))
noncomputable def vR:Ax:=.s Va Vb
noncomputable def vQ:Ap:=.Q Qa Qb
noncomputable def vP:Ap:=.E K0 Qa
noncomputable def q0:Ax:=.c 100
noncomputable def LI:Ap:=.a (.E (.g yP) Qa) (.L Qa yP)
noncomputable def rX:Ax:=.c 256
def ar(n k:Nat)(N:List Nat)(Z:List Int)(hs:List Ap)(g:Ap)(h:autoParam (yN n k (mS g hs)=true) tK):yA N Z g hs:=KL N Z g hs (Hq h N Z)
def A1(hs:List Ap)(g:Ap)(h:autoParam (yN 1 1 (mS g hs)=true) tK){a:Nat}:yA [a] [] g hs:=ar 1 1 _ _ hs g h
def A2(hs:List Ap)(g:Ap)(h:autoParam (yN 2 3 (mS g hs)=true) tK){a b:Nat}:yA [a,b] [] g hs:=ar 2 3 _ _ hs g h
def A3(hs:List Ap)(g:Ap)(h:autoParam (yN 3 5 (mS g hs)=true) tK){a b c:Nat}:yA [a,b,c] [] g hs:=ar 3 5 _ _ hs g h
def A4(hs:List Ap)(g:Ap)(h:autoParam (yN 4 7 (mS g hs)=true) tK){a b c d:Nat}:yA [a,b,c,d] [] g hs:=ar 4 7 _ _ hs g h
def A5(hs:List Ap)(g:Ap)(h:autoParam (yN 5 9 (mS g hs)=true) tK){a b c d e:Nat}:yA [a,b,c,d,e] [] g hs:=ar 5 9 _ _ hs g h
def A6(hs:List Ap)(g:Ap)(h:autoParam (yN 6 11 (mS g hs)=true) tK){a b c d e f:Nat}:yA [a,b,c,d,e,f] [] g hs:=ar 6 11 _ _ hs g h
def I1(hs:List Ap)(g:Ap)(h:autoParam (yN 0 2 (mS g hs)=true) tK){a:Int}:yA [] [a] g hs:=ar 0 2 _ _ hs g h
def I2(hs:List Ap)(g:Ap)(h:autoParam (yN 0 4 (mS g hs)=true) tK){a b:Int}:yA [] [a,b] g hs:=ar 0 4 _ _ hs g h
def I3(hs:List Ap)(g:Ap)(h:autoParam (yN 0 6 (mS g hs)=true) tK){a b c:Int}:yA [] [a,b,c] g hs:=ar 0 6 _ _ hs g h
end
section
variable{j5 m5 ug B4 Hs KX NW:Sort _}{C K1 K2 K3 K4 K5 K6 K7:Prop}{M1 M2 M3 M4 M5:j5->Prop}{N1 N2 N3 N4 N5 N6:j5->m5->Prop}{O1 O2 O3 O4:j5->m5->ug->Prop}{P1 P2 P3 P4:j5->m5->ug->B4->Prop}{Q1 Q2:j5->m5->ug->B4->Hs->Prop}{R1 R2:j5->m5->ug->B4->Hs->KX->Prop}{S1:j5->m5->ug->B4->Hs->KX->NW->Prop}
def cu(h:K1/\K2)(k:K1->K2->C):C:=k h.1 h.2
def aO(h:∃a1,M1 a1)(k:∀a1,M1 a1->C):C:=Exists.elim h λa1 h1=>k a1 h1
def FN(p1:K1)(a1:j5)(p2:M1 a1):K1/\∃a1,M1 a1:=⟨p1,a1,p2⟩
def bH(a1:j5)(p1:M1 a1)(p2:M2 a1):∃a1,M1 a1/\M2 a1:=⟨a1,p1,p2⟩
def pA(a1:j5)(a2:m5)(p1:N1 a1 a2):∃a1,∃a2,N1 a1 a2:=⟨a1,a2,p1⟩
def dW(h:K1/\K2/\K3)(k:K1->K2->K3->C):C:=k h.1 h.2.1 h.2.2
def uA(h:K1/\∃a1,M1 a1)(k:K1->∀a1,M1 a1->C):C:=Exists.elim h.2 λa1 h1=>k h.1 a1 h1
def ao(h:∃a1,M1 a1/\M2 a1)(k:∀a1,M1 a1->M2 a1->C):C:=Exists.elim h λa1 h1=>k a1 h1.1 h1.2
def iw(h:∃a1,∃a2,N1 a1 a2)(k:∀a1,∀a2,N1 a1 a2->C):C:=Exists.elim h λa1 h1=>Exists.elim h1 λa2 h2=>k a1 a2 h2
def dG(a1:j5)(p1:M1 a1)(p2:M2 a1)(p3:M3 a1):∃a1,M1 a1/\M2 a1/\M3 a1:=⟨a1,p1,p2,p3⟩
def sQ(a1:j5)(a2:m5)(p1:N1 a1 a2)(p2:N2 a1 a2):∃a1,∃a2,N1 a1 a2/\N2 a1 a2:=⟨a1,a2,p1,p2⟩
def Eu(a1:j5)(a2:m5)(a3:ug)(p1:O1 a1 a2 a3):∃a1,∃a2,∃a3,O1 a1 a2 a3:=⟨a1,a2,a3,p1⟩
def kS(h:K1/\K2/\K3/\K4)(k:K1->K2->K3->K4->C):C:=k h.1 h.2.1 h.2.2.1 h.2.2.2
def mH(h:K1/\∃a1,M1 a1/\M2 a1)(k:K1->∀a1,M1 a1->M2 a1->C):C:=Exists.elim h.2 λa1 h1=>k h.1 a1 h1.1 h1.2
def bq(h:∃a1,M1 a1/\M2 a1/\M3 a1)(k:∀a1,M1 a1->M2 a1->M3 a1->C):C:=Exists.elim h λa1 h1=>k a1 h1.1 h1.2.1 h1.2.2
def d4(h:∃a1,∃a2,N1 a1 a2/\N2 a1 a2)(k:∀a1,∀a2,N1 a1 a2->N2 a1 a2->C):C:=Exists.elim h λa1 h1=>Exists.elim h1 λa2 h2=>k a1 a2 h2.1 h2.2
def vU(h:∃a1,∃a2,∃a3,O1 a1 a2 a3)(k:∀a1,∀a2,∀a3,O1 a1 a2 a3->C):C:=Exists.elim h λa1 h1=>Exists.elim h1 λa2 h2=>Exists.elim h2 λa3 h3=>k a1 a2 a3 h3
def Aj(p1:K1)(a1:j5)(p2:M1 a1)(p3:M2 a1)(p4:M3 a1):K1/\∃a1,M1 a1/\M2 a1/\M3 a1:=⟨p1,a1,p2,p3,p4⟩
def gT(a1:j5)(a2:m5)(p1:N1 a1 a2)(p2:N2 a1 a2)(p3:N3 a1 a2):∃a1,∃a2,N1 a1 a2/\N2 a1 a2/\N3 a1 a2:=⟨a1,a2,p1,p2,p3⟩
def G6(a1:j5)(a2:m5)(a3:ug)(a4:B4)(p1:P1 a1 a2 a3 a4):∃a1,∃a2,∃a3,∃a4,P1 a1 a2 a3 a4:=⟨a1,a2,a3,a4,p1⟩
def dk(h:K1/\K2/\K3/\K4/\K5)(k:K1->K2->K3->K4->K5->C):C:=k h.1 h.2.1 h.2.2.1 h.2.2.2.1 h.2.2.2.2
def uR(h:K1/\∃a1,∃a2,N1 a1 a2/\N2 a1 a2)(k:K1->∀a1,∀a2,N1 a1 a2->N2 a1 a2->C):C:=Exists.elim h.2 λa1 h1=>Exists.elim h1 λa2 h2=>k h.1 a1 a2 h2.1 h2.2
def n8(h:∃a1,M1 a1/\M2 a1/\M3 a1/\M4 a1)(k:∀a1,M1 a1->M2 a1->M3 a1->M4 a1->C):C:=Exists.elim h λa1 h1=>k a1 h1.1 h1.2.1 h1.2.2.1 h1.2.2.2
def uQ(h:∃a1,M1 a1/\M2 a1/\∃a2,N1 a1 a2)(k:∀a1,M1 a1->M2 a1->∀a2,N1 a1 a2->C):C:=Exists.elim h λa1 h1=>Exists.elim h1.2.2 λa2 h2=>k a1 h1.1 h1.2.1 a2 h2
def bZ(h:∃a1,∃a2,N1 a1 a2/\N2 a1 a2/\N3 a1 a2)(k:∀a1,∀a2,N1 a1 a2->N2 a1 a2->N3 a1 a2->C):C:=Exists.elim h λa1 h1=>Exists.elim h1 λa2 h2=>k a1 a2 h2.1 h2.2.1 h2.2.2
def eR(h:∃a1,∃a2,∃a3,O1 a1 a2 a3/\O2 a1 a2 a3)(k:∀a1,∀a2,∀a3,O1 a1 a2 a3->O2 a1 a2 a3->C):C:=Exists.elim h λa1 h1=>Exists.elim h1 λa2 h2=>Exists.elim h2 λa3 h3=>k a1 a2 a3 h3.1 h3.2
def GJ(h:∃a1,∃a2,∃a3,∃a4,P1 a1 a2 a3 a4)(k:∀a1,∀a2,∀a3,∀a4,P1 a1 a2 a3 a4->C):C:=Exists.elim h λa1 h1=>Exists.elim h1 λa2 h2=>Exists.elim h2 λa3 h3=>Exists.elim h3 λa4 h4=>k a1 a2 a3 a4 h4
def f6(a1:j5)(a2:m5)(p1:N1 a1 a2)(p2:N2 a1 a2)(p3:N3 a1 a2)(p4:N4 a1 a2):∃a1,∃a2,N1 a1 a2/\N2 a1 a2/\N3 a1 a2/\N4 a1 a2:=⟨a1,a2,p1,p2,p3,p4⟩
def Dw(a1:j5)(a2:m5)(a3:ug)(p1:O1 a1 a2 a3)(p2:O2 a1 a2 a3)(p3:O3 a1 a2 a3):∃a1,∃a2,∃a3,O1 a1 a2 a3/\O2 a1 a2 a3/\O3 a1 a2 a3:=⟨a1,a2,a3,p1,p2,p3⟩
def Dv(a1:j5)(a2:m5)(a3:ug)(a4:B4)(a5:Hs)(p1:Q1 a1 a2 a3 a4 a5):∃a1,∃a2,∃a3,∃a4,∃a5,Q1 a1 a2 a3 a4 a5:=⟨a1,a2,a3,a4,a5,p1⟩
def Dd(h:K1/\K2/\K3/\K4/\K5/\K6)(k:K1->K2->K3->K4->K5->K6->C):C:=k h.1 h.2.1 h.2.2.1 h.2.2.2.1 h.2.2.2.2.1 h.2.2.2.2.2
def dw(h:∃a1,∃a2,N1 a1 a2/\N2 a1 a2/\N3 a1 a2/\N4 a1 a2)(k:∀a1,∀a2,N1 a1 a2->N2 a1 a2->N3 a1 a2->N4 a1 a2->C):C:=Exists.elim h λa1 h1=>Exists.elim h1 λa2 h2=>k a1 a2 h2.1 h2.2.1 h2.2.2.1 h2.2.2.2
def fq(h:∃a1,∃a2,∃a3,O1 a1 a2 a3/\O2 a1 a2 a3/\O3 a1 a2 a3)(k:∀a1,∀a2,∀a3,O1 a1 a2 a3->O2 a1 a2 a3->O3 a1 a2 a3->C):C:=Exists.elim h λa1 h1=>Exists.elim h1 λa2 h2=>Exists.elim h2 λa3 h3=>k a1 a2 a3 h3.1 h3.2.1 h3.2.2
def k9(h:∃a1,∃a2,∃a3,∃a4,∃a5,Q1 a1 a2 a3 a4 a5)(k:∀a1,∀a2,∀a3,∀a4,∀a5,Q1 a1 a2 a3 a4 a5->C):C:=Exists.elim h λa1 h1=>Exists.elim h1 λa2 h2=>Exists.elim h2 λa3 h3=>Exists.elim h3 λa4 h4=>Exists.elim h4 λa5 h5=>k a1 a2 a3 a4 a5 h5
def Bl(a1:j5)(p1:M1 a1)(p2:M2 a1)(p3:M3 a1)(p4:M4 a1)(a2:m5)(p5:N1 a1 a2):∃a1,M1 a1/\M2 a1/\M3 a1/\M4 a1/\∃a2,N1 a1 a2:=⟨a1,p1,p2,p3,p4,a2,p5⟩
def Bj(a1:j5)(p1:M1 a1)(a2:m5)(a3:ug)(p2:O1 a1 a2 a3)(p3:O2 a1 a2 a3)(p4:O3 a1 a2 a3):∃a1,M1 a1/\∃a2,∃a3,O1 a1 a2 a3/\O2 a1 a2 a3/\O3 a1 a2 a3:=⟨a1,p1,a2,a3,p2,p3,p4⟩
def oG(a1:j5)(a2:m5)(p1:N1 a1 a2)(p2:N2 a1 a2)(p3:N3 a1 a2)(p4:N4 a1 a2)(p5:N5 a1 a2):∃a1,∃a2,N1 a1 a2/\N2 a1 a2/\N3 a1 a2/\N4 a1 a2/\N5 a1 a2:=⟨a1,a2,p1,p2,p3,p4,p5⟩
def gy(a1:j5)(a2:m5)(a3:ug)(p1:O1 a1 a2 a3)(p2:O2 a1 a2 a3)(p3:O3 a1 a2 a3)(p4:O4 a1 a2 a3):∃a1,∃a2,∃a3,O1 a1 a2 a3/\O2 a1 a2 a3/\O3 a1 a2 a3/\O4 a1 a2 a3:=⟨a1,a2,a3,p1,p2,p3,p4⟩
def ic(a1:j5)(a2:m5)(a3:ug)(a4:B4)(a5:Hs)(a6:KX)(p1:R1 a1 a2 a3 a4 a5 a6):∃a1,∃a2,∃a3,∃a4,∃a5,∃a6,R1 a1 a2 a3 a4 a5 a6:=⟨a1,a2,a3,a4,a5,a6,p1⟩
def oz(h:K1/\K2/\K3/\K4/\K5/\K6/\K7)(k:K1->K2->K3->K4->K5->K6->K7->C):C:=k h.1 h.2.1 h.2.2.1 h.2.2.2.1 h.2.2.2.2.1 h.2.2.2.2.2.1 h.2.2.2.2.2.2
def ei(h:K1/\K2/\K3/\K4/\∃a1,M1 a1/\M2 a1)(k:K1->K2->K3->K4->∀a1,M1 a1->M2 a1->C):C:=Exists.elim h.2.2.2.2 λa1 h1=>k h.1 h.2.1 h.2.2.1 h.2.2.2.1 a1 h1.1 h1.2
def oy(h:K1/\K2/\K3/\K4/\∃a1,∃a2,N1 a1 a2)(k:K1->K2->K3->K4->∀a1,∀a2,N1 a1 a2->C):C:=Exists.elim h.2.2.2.2 λa1 h1=>Exists.elim h1 λa2 h2=>k h.1 h.2.1 h.2.2.1 h.2.2.2.1 a1 a2 h2
def lB(h:∃a1,∃a2,N1 a1 a2/\N2 a1 a2/\N3 a1 a2/\N4 a1 a2/\N5 a1 a2)(k:∀a1,∀a2,N1 a1 a2->N2 a1 a2->N3 a1 a2->N4 a1 a2->N5 a1 a2->C):C:=Exists.elim h λa1 h1=>Exists.elim h1 λa2 h2=>k a1 a2 h2.1 h2.2.1 h2.2.2.1 h2.2.2.2.1 h2.2.2.2.2
def cQ(h:∃a1,∃a2,∃a3,O1 a1 a2 a3/\O2 a1 a2 a3/\O3 a1 a2 a3/\O4 a1 a2 a3)(k:∀a1,∀a2,∀a3,O1 a1 a2 a3->O2 a1 a2 a3->O3 a1 a2 a3->O4 a1 a2 a3->C):C:=Exists.elim h λa1 h1=>Exists.elim h1 λa2 h2=>Exists.elim h2 λa3 h3=>k a1 a2 a3 h3.1 h3.2.1 h3.2.2.1 h3.2.2.2
def ia(h:∃a1,∃a2,∃a3,∃a4,P1 a1 a2 a3 a4/\P2 a1 a2 a3 a4/\P3 a1 a2 a3 a4)(k:∀a1,∀a2,∀a3,∀a4,P1 a1 a2 a3 a4->P2 a1 a2 a3 a4->P3 a1 a2 a3 a4->C):C:=Exists.elim h λa1 h1=>Exists.elim h1 λa2 h2=>Exists.elim h2 λa3 h3=>Exists.elim h3 λa4 h4=>k a1 a2 a3 a4 h4.1 h4.2.1 h4.2.2
def lA(h:∃a1,∃a2,∃a3,∃a4,∃a5,Q1 a1 a2 a3 a4 a5/\Q2 a1 a2 a3 a4 a5)(k:∀a1,∀a2,∀a3,∀a4,∀a5,Q1 a1 a2 a3 a4 a5->Q2 a1 a2 a3 a4 a5->C):C:=Exists.elim h λa1 h1=>Exists.elim h1 λa2 h2=>Exists.elim h2 λa3 h3=>Exists.elim h3 λa4 h4=>Exists.elim h4 λa5 h5=>k a1 a2 a3 a4 a5 h5.1 h5.2
def dm(h:∃a1,∃a2,∃a3,∃a4,∃a5,∃a6,R1 a1 a2 a3 a4 a5 a6)(k:∀a1,∀a2,∀a3,∀a4,∀a5,∀a6,R1 a1 a2 a3 a4 a5 a6->C):C:=Exists.elim h λa1 h1=>Exists.elim h1 λa2 h2=>Exists.elim h2 λa3 h3=>Exists.elim h3 λa4 h4=>Exists.elim h4 λa5 h5=>Exists.elim h5 λa6 h6=>k a1 a2 a3 a4 a5 a6 h6
def yc(p1:K1)(a1:j5)(a2:m5)(a3:ug)(p2:O1 a1 a2 a3)(p3:O2 a1 a2 a3)(p4:O3 a1 a2 a3)(p5:O4 a1 a2 a3):K1/\∃a1,∃a2,∃a3,O1 a1 a2 a3/\O2 a1 a2 a3/\O3 a1 a2 a3/\O4 a1 a2 a3:=⟨p1,a1,a2,a3,p2,p3,p4,p5⟩
def yb(a1:j5)(p1:M1 a1)(p2:M2 a1)(a2:m5)(a3:ug)(p3:O1 a1 a2 a3)(p4:O2 a1 a2 a3)(p5:O3 a1 a2 a3):∃a1,M1 a1/\M2 a1/\∃a2,∃a3,O1 a1 a2 a3/\O2 a1 a2 a3/\O3 a1 a2 a3:=⟨a1,p1,p2,a2,a3,p3,p4,p5⟩
def jP(a1:j5)(a2:m5)(p1:N1 a1 a2)(p2:N2 a1 a2)(p3:N3 a1 a2)(p4:N4 a1 a2)(p5:N5 a1 a2)(p6:N6 a1 a2):∃a1,∃a2,N1 a1 a2/\N2 a1 a2/\N3 a1 a2/\N4 a1 a2/\N5 a1 a2/\N6 a1 a2:=⟨a1,a2,p1,p2,p3,p4,p5,p6⟩
def qG(a1:j5)(a2:m5)(a3:ug)(a4:B4)(p1:P1 a1 a2 a3 a4)(p2:P2 a1 a2 a3 a4)(p3:P3 a1 a2 a3 a4)(p4:P4 a1 a2 a3 a4):∃a1,∃a2,∃a3,∃a4,P1 a1 a2 a3 a4/\P2 a1 a2 a3 a4/\P3 a1 a2 a3 a4/\P4 a1 a2 a3 a4:=⟨a1,a2,a3,a4,p1,p2,p3,p4⟩
def ya(a1:j5)(a2:m5)(a3:ug)(a4:B4)(a5:Hs)(a6:KX)(a7:NW)(p1:S1 a1 a2 a3 a4 a5 a6 a7):∃a1,∃a2,∃a3,∃a4,∃a5,∃a6,∃a7,S1 a1 a2 a3 a4 a5 a6 a7:=⟨a1,a2,a3,a4,a5,a6,a7,p1⟩
def gf(h:K1/\K2/\K3/\K4/\K5/\∃a1,M1 a1/\M2 a1)(k:K1->K2->K3->K4->K5->∀a1,M1 a1->M2 a1->C):C:=Exists.elim h.2.2.2.2.2 λa1 h1=>k h.1 h.2.1 h.2.2.1 h.2.2.2.1 h.2.2.2.2.1 a1 h1.1 h1.2
def xV(h:K1/\∃a1,∃a2,∃a3,O1 a1 a2 a3/\O2 a1 a2 a3/\O3 a1 a2 a3/\O4 a1 a2 a3)(k:K1->∀a1,∀a2,∀a3,O1 a1 a2 a3->O2 a1 a2 a3->O3 a1 a2 a3->O4 a1 a2 a3->C):C:=Exists.elim h.2 λa1 h1=>Exists.elim h1 λa2 h2=>Exists.elim h2 λa3 h3=>k h.1 a1 a2 a3 h3.1 h3.2.1 h3.2.2.1 h3.2.2.2
def xU(h:∃a1,∃a2,∃a3,∃a4,P1 a1 a2 a3 a4/\P2 a1 a2 a3 a4/\P3 a1 a2 a3 a4/\P4 a1 a2 a3 a4)(k:∀a1,∀a2,∀a3,∀a4,P1 a1 a2 a3 a4->P2 a1 a2 a3 a4->P3 a1 a2 a3 a4->P4 a1 a2 a3 a4->C):C:=Exists.elim h λa1 h1=>Exists.elim h1 λa2 h2=>Exists.elim h2 λa3 h3=>Exists.elim h3 λa4 h4=>k a1 a2 a3 a4 h4.1 h4.2.1 h4.2.2.1 h4.2.2.2
def qv(h:∃a1,∃a2,∃a3,∃a4,∃a5,∃a6,∃a7,S1 a1 a2 a3 a4 a5 a6 a7)(k:∀a1,∀a2,∀a3,∀a4,∀a5,∀a6,∀a7,S1 a1 a2 a3 a4 a5 a6 a7->C):C:=Exists.elim h λa1 h1=>Exists.elim h1 λa2 h2=>Exists.elim h2 λa3 h3=>Exists.elim h3 λa4 h4=>Exists.elim h4 λa5 h5=>Exists.elim h5 λa6 h6=>Exists.elim h6 λa7 h7=>k a1 a2 a3 a4 a5 a6 a7 h7
end
def Od{j5 LO:Sort _}{f1:j5->LO}{C:LO->Prop}(v1:LO)(h:∃a1,v1=f1 a1)(k:∀a1,C (f1 a1)):C v1:=by obtain⟨a1,rfl⟩:=h;exact k a1
def fR{C:Prop}(h:false=true):C:=Bool.noConfusion h
def Ht{C:Prop}(h:true=false):C:=Bool.noConfusion h
def cG{α:Type _}{a:α}{C:Prop}(h:none=some a):C:=by cases h
def yq{α:Type _}{a:α}{C:Prop}(h:some a=none):C:=by cases h
def pL{α:Type _}{a:α}{C:Prop}(h:a∈[]):C:=absurd h Uz
def LP{α:Type _}{a:α}{l:List α}{C:Prop}(h:a::l=[]):C:=by cases h
def Pl{α:Type _}{a:α}{l:List α}{C:Prop}(h:[]=a::l):C:=by cases h
def mA{α:Type _}{P:α->Prop}{a:α}{l:List α}(h:P a)(t:∀b∈l,P b):∀b∈a::l,P b:=forall_mem_cons.mpr ⟨h,t⟩
def mN{α:Type _}{P:α->Prop}:∀b∈[],P b:=λ_ h=>absurd h Uz
def mask{P:Prop}(h:∀C:Prop,(P->C)->C):P:=h P id
def nz{P:Prop}(h:P):P:=h
section
open PySem PySem.W PyProof.Rows
inductive D where
 |none
 |bool (b:Bool)
 |int (i:Int)
 |str (s:Str)
 |list (xs:List D)
 |tup (xs:List D)
 |aG (aH:List (Int×D))
 |cF (aH:List (Str×D))
 |judge (d:D)
 deriving Inhabited
noncomputable abbrev XS:=Addr->Prop
set_option genInjectivity false in
structure Gd where
 prog:Program
 w:World
 J:Addr
 h₀:Heap
 mg:Str->Option Value
 mb:Str->Option Value
 g:h₀.Ns mainGlobals mg
 b:h₀.Ns builtinsNs mb
 nolimit:h₀.NoLimit
 cC:Addr
 cP:Addr
 E9:Array Value
 code:h₀.IsCode cC cP E9
 tab:h₀.TableAt cC cP E9
 notStatics:cP≠cStatics
 bm:Addr
 ob:Obj
 bmod:BMod h₀ mainGlobals mg bm ob
 boot:∀x:Str,x≠"__name__"->mb x=bootBuiltins x
mutual
noncomputable def Rep(G:Gd)(h:Heap)(X:XS):D->Value->Prop
 |.none,v=>v=.none
 |.bool b,v=>v=.bool b
 |.int i,v=>∃t,v=.int i t
 |.str x,v=>∃t,v=.str x t
 |.list ds,v=>∃a vs,v=.ref a/\¬X a/\h.PlainList a (toArray vs)/\aK G h X ds vs
 |.tup ds,v=>∃a vs,v=.ref a/\¬X a/\h.IsTuple a (toArray vs)/\aK G h X ds vs
 |.aG aH,v=>∃a ks,v=.ref a/\¬X a/\(a==sysModules)=false/\h.DictOf (intKind G.prog G.w) a ks/\cT G h X aH ks
 |.cF aH,v=>∃a ks,v=.ref a/\¬X a/\(a==sysModules)=false/\h.DictOf (strKind G.prog G.w) a ks/\dN G h X aH ks
 |.judge d,v=>∃a dx,v=.ref a/\¬X a/\¬X dx/\h.get? a=some (instObj G.J dx)/\∃m u,h.Ns dx m/\m (Str.ofString "comp_select_list")=some u/\m (Str.ofString "compare")=Option.none/\Rep G h X d u
noncomputable def aK(G:Gd)(h:Heap)(X:XS):List D->List Value->Prop
 |[],vs=>vs=[]
 |d::ds,vs=>∃v r,vs=v::r/\Rep G h X d v/\aK G h X ds r
noncomputable def cT(G:Gd)(h:Heap)(X:XS):List (Int×D)->List (Int×Value)->Prop
 |[],vs=>vs=[]
 |(k,d)::ds,vs=>∃v r,vs=(k,v)::r/\Rep G h X d v/\cT G h X ds r
noncomputable def dN(G:Gd)(h:Heap)(X:XS):List (Str×D)->List (Str×Value)->Prop
 |[],vs=>vs=[]
 |(k,d)::ds,vs=>∃v r,vs=(k,v)::r/\Rep G h X d v/\dN G h X ds r
end
noncomputable def nv(o:Obj):Prop:=o.cls≠ .none\/∀vs,o.data≠ .fields vs
def c9(h:o.cls=.type T):nv o:=.inl (by rw[h];exact λe=>by cases e)
def fY(h:o.data=.dict es n):nv o:=.inr λvs e=>by rw[h]at e;cases e
def De(h:o.data=.cell v):nv o:=.inr λvs e=>by rw[h]at e;cases e
def lg(h:o.data=.func fd):nv o:=.inr λvs e=>by rw[h]at e;cases e
noncomputable def Ok(X:XS)(h:Heap)(X':XS)(h':Heap):Prop:=∀b o,nv o->h.get? b=some o->¬X b->h'.get? b=some o/\¬X' b
section
variable{G:Gd}{h h':Heap}{X X':XS}
def AO:Rep G h X .none .none:=by delta Rep;rfl
def dB:Rep G h X (.bool b) (.bool b):=by delta Rep;rfl
def bO:Rep G h X (.int i) (.int i t):=by delta Rep;exact⟨t,rfl⟩
def gH:Rep G h X (.str x) (.str x t):=by delta Rep;exact⟨t,rfl⟩
def lM:Rep G h X .none v↔v=.none:=by delta Rep;exact Iff.rfl
def dY:Rep G h X (.bool b) v↔v=.bool b:=by delta Rep;exact Iff.rfl
def ak:Rep G h X (.int i) v↔∃t,v=.int i t:=by delta Rep;exact Iff.rfl
def aM:Rep G h X (.str x) v↔∃t,v=.str x t:=by delta Rep;exact Iff.rfl
def aA:Rep G h X (.list ds) v↔∃a vs,v=.ref a/\¬X a/\h.PlainList a (toArray vs)/\aK G h X ds vs:=Iff.rfl
def aQ:Rep G h X (.tup ds) v↔∃a vs,v=.ref a/\¬X a/\h.IsTuple a (toArray vs)/\aK G h X ds vs:=Iff.rfl
def cj:Rep G h X (.aG aH) v↔∃a ks,v=.ref a/\¬X a/\(a==sysModules)=false/\h.DictOf (intKind G.prog G.w) a ks/\cT G h X aH ks:=Iff.rfl
def dC:Rep G h X (.cF aH) v↔∃a ks,v=.ref a/\¬X a/\(a==sysModules)=false/\h.DictOf (strKind G.prog G.w) a ks/\dN G h X aH ks:=Iff.rfl
def fy:Rep G h X (.judge d) v↔∃a dx,v=.ref a/\¬X a/\¬X dx/\h.get? a=some (instObj G.J dx)/\∃m u,h.Ns dx m/\m (Str.ofString "comp_select_list")=some u/\m (Str.ofString "compare")=Option.none/\Rep G h X d u:=Iff.rfl
def b6:aK G h X [] []:=by delta aK;rfl
def a0(a:Rep G h X d v)(b:aK G h X ds vs):aK G h X (d::ds) (v::vs):=by exact gT v vs rfl a b
def aE:aK G h X [] vs↔vs=[]:=by delta aK;exact Iff.rfl
def af:aK G h X (d::ds) vs↔∃v r,vs=v::r/\Rep G h X d v/\aK G h X ds r:=Iff.rfl
def ly:cT G h X [] []:=by delta cT;rfl
def ij(a:Rep G h X d v)(b:cT G h X ds vs):cT G h X ((k,d)::ds) ((k,v)::vs):=by exact gT v vs rfl a b
def eX:cT G h X [] vs↔vs=[]:=by delta cT;exact Iff.rfl
def cL:cT G h X ((k,d)::ds) vs↔∃v r,vs=(k,v)::r/\Rep G h X d v/\cT G h X ds r:=Iff.rfl
def ow:dN G h X [] []:=by delta dN;rfl
def jN(a:Rep G h X d v)(b:dN G h X ds vs):dN G h X ((k,d)::ds) ((k,v)::vs):=by exact gT v vs rfl a b
def dZ:dN G h X [] vs↔vs=[]:=by delta dN;exact Iff.rfl
def dc:dN G h X ((k,d)::ds) vs↔∃v r,vs=(k,v)::r/\Rep G h X d v/\dN G h X ds r:=Iff.rfl
mutual
theorem Rep.move(k:Ok X h X' h'):∀(d:D) (v:Value),Rep G h X d v->Rep G h' X' d v
 |.none,_,x=>by delta Rep at*;exact x
 |.bool _,_,x=>by delta Rep at*;exact x
 |.int _,_,x=>by delta Rep at*;exact x
 |.str _,_,x=>by delta Rep at*;exact x
 |.list ds,_,x=>by obtain⟨a,vs,rfl,hx,⟨o,ho⟩,hr⟩:=aA.mp x;have n:nv (seqObj "list" vs.toArray o):=c9 rfl;exact f6 a vs rfl ((k a _ n ho hx).2) ⟨o,(k a _ n ho hx).1⟩ (aK.move k ds vs hr)
 |.tup ds,_,x=>by obtain⟨a,vs,rfl,hx,⟨o,ho,r⟩,hr⟩:=aQ.mp x;have n:nv o:=c9 r.1;exact f6 a vs rfl ((k a o n ho hx).2) ⟨o,(k a o n ho hx).1,r⟩ (aK.move k ds vs hr)
 |.aG aH,_,x=>by obtain⟨a,vs,rfl,hx,hs,⟨o,es,ep,ho,r⟩,hr⟩:=cj.mp x;have n:nv o:=fY r.2.1;exact oG a vs rfl ((k a o n ho hx).2) hs ⟨o,es,ep,(k a o n ho hx).1,r⟩ (cT.move k aH vs hr)
 |.cF aH,_,x=>by obtain⟨a,vs,rfl,hx,hs,⟨o,es,ep,ho,r⟩,hr⟩:=dC.mp x;have n:nv o:=fY r.2.1;exact oG a vs rfl ((k a o n ho hx).2) hs ⟨o,es,ep,(k a o n ho hx).1,r⟩ (dN.move k aH vs hr)
 |.judge d,_,x=>by obtain⟨a,dx,rfl,hx,w6,ho,m,u,⟨o,es,ep,iu,r⟩,hm,Ii,hr⟩:=fy.mp x;have n:nv (instObj G.J dx):=.inl (λe=>by cases e);have n':nv o:=fY r.1;exact oG a dx rfl ((k a _ n ho hx).2) ((k dx o n' iu w6).2) ((k a _ n ho hx).1) (f6 m u ⟨o,es,ep,(k dx o n' iu w6).1,r⟩ hm Ii (Rep.move k d u hr))
theorem aK.move(k:Ok X h X' h'):∀(ds:List D) (vs:List Value),aK G h X ds vs->aK G h' X' ds vs
 |[],_,x=>by delta aK at*;exact x
 |d::ds,_,x=>by obtain⟨v,r,rfl,hv,hr⟩:=af.mp x;exact gT v r rfl (Rep.move k d v hv) (aK.move k ds r hr)
theorem cT.move(k:Ok X h X' h'):∀(ds:List (Int×D)) (vs:List (Int×Value)),cT G h X ds vs->cT G h' X' ds vs
 |[],_,x=>by delta cT at*;exact x
 |(_,d)::ds,_,x=>by obtain⟨v,r,rfl,hv,hr⟩:=cL.mp x;exact gT v r rfl (Rep.move k d v hv) (cT.move k ds r hr)
theorem dN.move(k:Ok X h X' h'):∀(ds:List (Str×D)) (vs:List (Str×Value)),dN G h X ds vs->dN G h' X' ds vs
 |[],_,x=>by delta dN at*;exact x
 |(_,d)::ds,_,x=>by obtain⟨v,r,rfl,hv,hr⟩:=dc.mp x;exact gT v r rfl (Rep.move k d v hv) (dN.move k ds r hr)
end
end
section
variable{G:Gd}{h h':Heap}{X X':XS}
def aK.length:∀{ds:List D} {vs:List Value},aK G h X ds vs->vs.length=ds.length:=by
 intro l';induction l' with
 |nil=>exact @λ_ x=>by rw[aE.mp x];rfl
 |cons y' HX aU=>exact @λ_ x=>by obtain⟨v,r,rfl,_,hr⟩:=af.mp x;simp[aU hr]
def aK.append:∀{ds es:List D} {vs us:List Value},aK G h X ds vs->aK G h X es us->aK G h X (ds++es) (vs++us):=by
 intro l';induction l' with
 |nil=>exact @λ_ _ _ x y=>by rw[aE.mp x];exact y
 |cons y' HX aU=>exact @λ_ _ _ x y=>by obtain⟨v,r,rfl,hv,hr⟩:=af.mp x;exact a0 hv (aU hr y)
theorem aK.get:∀{ds:List D} {vs:List Value} {i:Nat} {d:D},aK G h X ds vs->ds[i]? =some d->∃v,vs[i]? =some v/\Rep G h X d v
 |[],_,_,_,_,e=>by trivial
 |_::_,_,0,_,x,e=>by obtain⟨v,r,rfl,hv,_⟩:=af.mp x;simp at e;subst e;exact bH v rfl hv
 |_::_,_,i+1,_,x,e=>by obtain⟨v,r,rfl,_,hr⟩:=af.mp x;simp at e;exact aK.get (i:=i) hr e
theorem aK.drop:∀{ds:List D} {vs:List Value} (i:Nat),aK G h X ds vs->aK G h X (ds.drop i) (vs.drop i)
 |[],_,i,x=>by rw[aE.mp x];simp[b6]
 |_::_,_,0,x=>x
 |_::_,_,i+1,x=>by obtain⟨v,r,rfl,_,hr⟩:=af.mp x;exact aK.drop i hr
theorem aK.take:∀{ds:List D} {vs:List Value} (i:Nat),aK G h X ds vs->aK G h X (ds.take i) (vs.take i)
 |[],_,i,x=>by rw[aE.mp x];simp[b6]
 |_::_,_,0,x=>by simp[b6]
 |_::_,_,i+1,x=>by obtain⟨v,r,rfl,hv,hr⟩:=af.mp x;exact a0 hv (aK.take i hr)
theorem aK.set:∀{ds:List D} {vs:List Value} (i:Nat) {d:D} {v:Value},aK G h X ds vs->Rep G h X d v->aK G h X (ds.set i d) (vs.set i v)
 |[],_,i,_,_,x,_=>by rw[aE.mp x];simp[b6]
 |_::_,_,0,_,_,x,y=>by obtain⟨v,r,rfl,_,hr⟩:=af.mp x;exact a0 y hr
 |_::_,_,i+1,_,_,x,y=>by obtain⟨v,r,rfl,hv,hr⟩:=af.mp x;exact a0 hv (aK.set i hr y)
theorem aK.n7:∀{ds:List D} {vs:List Value},ds.length=vs.length->(∀(i:Nat) (d:D) (v:Value),ds[i]? =some d->vs[i]? =some v->Rep G h X d v)->aK G h X ds vs
 |[],[],_,_=>b6
 |[],_::_,e,_=>by trivial
 |_::_,[],e,_=>by trivial
 |d::ds,v::vs,e,k=>a0 (k 0 d v rfl rfl) (aK.n7 (by simpa using e) λi a b x y=>k (i+1) a b x y)
end
def Ok.keep(k:∀b o,nv o->h.get? b=some o->h'.get? b=some o):Ok X h X h':=λb o v e n=>⟨k b o v e,n⟩
def Ok.sub(k:∀a,X' a->X a):Ok X h X' h:=λ_ _ _ e n=>⟨e,λy=>n (k _ y)⟩
noncomputable def D.atom:D->Bool
 |.none|.bool _|.int _|.str _=>true
 |_=>false
def Rep.atom(ha:d.atom=true)(r:Rep G h X d v):Rep G h' X' d v:=by induction d using D.casesOn<;>first|(delta Rep at*;exact r)|(exact Bool.noConfusion ‹_›)
structure Tb(G:Gd)(h:Heap):Prop where
 rest:∀b o,b≠G.cP->G.h₀.get? b=some o->h.get? b=some o
 grown:∃more,h.IsCode G.cC G.cP (G.E9++more)/\h.TableAt G.cC G.cP (G.E9++more)
def Tb.start(G:Gd):Tb G G.h₀:=⟨λ_ _ _ e=>e, #[],by simpa using G.code,by simpa using G.tab⟩
def Tb.keeps(T:Tb G h)(k:∀b o,h.get? b=some o->h'.get? b=some o):Tb G h':=
 ⟨λb o n e=>k _ _ (T.rest b o n e),ao T.grown λmore a b=>⟨more,a.keeps k,b.keeps k⟩⟩
def Tb.base(T:Tb G h):∀b o,nv o->G.h₀.get? b=some o->h.get? b=some o:=λb o n e=>T.rest b o (λq=>by
 subst q;rw[G.tab.2]at e;obtain rfl:=Option.some.inj e;rcases n with n|n
 .exact n rfl
 .exact n _ rfl) e
def Tb.sameBut(T:Tb G h)(hs:Heap.SameBut a h h')(ha:G.h₀.get? a=none):Tb G h':=by
 have ne:∀b o,G.h₀.get? b=some o->b≠a:=λb o e q=>by rw[q,ha]at e;exact cG e
 have h1:G.cC≠a:=by(refine cu G.tab λaB _=>?_;refine d4 aB λo vs e _=>?_);exact ne _ _ e
 have h2:G.cP≠a:=ne _ _ G.tab.2;exact⟨λb o n e=>(hs.2 b (ne b o e)).trans (T.rest b o n e),ao T.grown λmore x y=>⟨more,x.sameBut hs h1 h2,y.sameBut hs h1 h2⟩⟩
def Tb.apart{h h':Heap}{wr:XS}(T:Tb G h)(hk:∀b o,¬wr b->h.get? b=some o->h'.get? b=some o)(hw:∀b,wr b->G.h₀.get? b=none):Tb G h':=by
 have ne:∀b o,G.h₀.get? b=some o->¬wr b:=λb o e q=>by rw[hw b q]at e;exact cG e
 refine ao T.grown λmore x y=>?_;refine⟨λb o n e=>hk b o (ne b o e) (T.rest b o n e),more,?_,?_⟩
 ·(refine dm x λo vs file tf flags tg fS=>?_;refine ia fS λP7 text tt op a1 r1 uq=>?_;refine oz uq λr2 r3 r4 r5 r6 a2 r=>?_);(refine cu G.tab λaB _=>?_;refine d4 aB λo' r9 e _=>?_);exact⟨o,vs,file,tf,flags,tg,P7,text,tt,op,hk _ _ (ne _ _ e) a1,r1,r2,r3,r4,r5,r6,hk _ _ (ne _ _ G.tab.2) a2,r⟩
 (refine cu y λaB u=>?_;refine d4 aB λo vs a r=>?_);(refine cu G.tab λaB e2=>?_;refine d4 aB λo' r9 e _=>?_);exact⟨⟨o,vs,hk _ _ (ne _ _ e) a,r⟩,hk _ _ (ne _ _ e2) u⟩
structure Ext(G:Gd)(s s':Shared):Prop where
 keep:∀b o,nv o->s.heap.get? b=some o->s'.heap.get? b=some o
 there:∀b o,s.heap.get? b=some o->∃o',s'.heap.get? b=some o'
 tb:Tb G s.heap->Tb G s'.heap
 os:s'.os=s.os
 gens:AllBare s.gens->AllBare s'.gens
def Ext.full(k:∀b o,s.heap.get? b=some o->s'.heap.get? b=some o)(os:s'.os=s.os)(gens:AllBare s.gens->AllBare s'.gens):Ext G s s':=
 ⟨λb o _ e=>k b o e,λb o e=>⟨o,k b o e⟩,λT=>T.keeps k,os,gens⟩
def Ext.refl(s:Shared):Ext G s s:=.full (λ_ _ e=>e) rfl id
def Ext.trans(x:Ext G a b)(y:Ext G b c):Ext G a c:=⟨λ_ _ n e=>y.keep _ _ n (x.keep _ _ n e),λb o e=>aO (x.there b o e) λo' e'=>y.there b o' e',λT=>y.tb (x.tb T),y.os.trans x.os,λe=>y.gens (x.gens e)⟩
def Ext.toks:Ext G s {s with toks:=n}:=.full (λ_ _ e=>e) rfl id
def Ext.push:Ext G s {s with heap:=s.heap.push o}:=.full (λ_ _ e=>SR o e) rfl id
def Ext.rep(e:Ext G s s')(r:Rep G s.heap X d v):Rep G s'.heap X d v:=Rep.move (Ok.keep e.keep) d v r
def Ext.pk(e:Ext G s s')(r:aK G s.heap X d v):aK G s'.heap X d v:=aK.move (Ok.keep e.keep) d v r
def Ext.jI(k:∀b o,s.heap.get? b=some o->h'.get? b=some o):Ext G s {s with heap:=h',toks:=n}:=.full k rfl id
inductive Slot where
 |no
 |val (d:D)
 |own (a:Addr) (d:D)
noncomputable def Holds(env:Env)(h:Heap)(x:Str)(ov:Option Value):Prop:=
 (env.kindOf x=some .local/\∃m,h.Ns env.locals m/\m x=ov)\/
 ((env.kindOf x=some .cell\/env.kindOf x=some .free)/\∃c,env.cells.lookup x=some c/\h.IsCell c ov)
noncomputable def bt(G:Gd)(h:Heap)(X:XS)(a:Addr):D->Prop
 |.list ds=>∃vs,h.PlainList a (toArray vs)/\aK G h X ds vs
 |.aG aH=>(a==sysModules)=false/\∃ks,h.DictOf (intKind G.prog G.w) a ks/\cT G h X aH ks
 |.cF aH=>(a==sysModules)=false/\∃ks,h.DictOf (strKind G.prog G.w) a ks/\dN G h X aH ks
 |_=>False
structure Fx where
 env:Env
 vars:List Str
 aD:XS
noncomputable def Fx.lk(F:Fx)(k:Bool)(X:XS):XS:=λa=>if k then F.aD a else X a
noncomputable def accN:Str:=⟨#[]⟩
noncomputable def l9(G:Gd)(F:Fx)(h:Heap)(X:XS)(x:Str):Slot->Prop
 |.no=>True
 |.val d=>∃v,Holds F.env h x (some v)/\Rep G h X d v
 |.own a d=>(x=accN\/Holds F.env h x (some (.ref a)))/\X a/\¬F.aD a/\a≠F.env.locals/\bt G h X a d
def fP(h:(x==accN)=false):x≠accN:=λe=>by rw[e]at h;exact Bool.noConfusion ‹_›
structure zP(env:Env):Prop where
 kind:env.scope.kind=.function
 globals:env.globals=mainGlobals
 builtins:env.builtins=builtinsNs
 apart:env.cells.Pairwise λx y=>x.2≠y.2
noncomputable abbrev RE:=List Slot
structure Gs(G:Gd)(X:XS)(h:Heap):Prop where
 tb:Tb G h
 live:∀a,X a->∃o,h.get? a=some o
 new:∀a,X a->G.h₀.get? a=none
structure St(G:Gd)(F:Fx)(X:XS)(ρ:RE)(h:Heap):Prop where
 ok:zP F.env
 gs:Gs G X h
 sub:∀a,F.aD a->X a
 xL:X F.env.locals
 ns:∃m,h.Ns F.env.locals m
 cells:∀x c,F.env.cells.lookup x=some c->X c/\∃ov,h.IsCell c ov
 len:ρ.length=F.vars.length
 uk:∀(i j:Nat) (a:Addr) (d d':D),ρ[i]? =some (.own a d)->ρ[j]? =some (.own a d')->i=j
 slots:∀(i:Nat) (x:Str) (sl:Slot),F.vars[i]? =some x->ρ[i]? =some sl->l9 G F h X x sl
def Gs.base(S:Gs G X h):∀b o,nv o->G.h₀.get? b=some o->h.get? b=some o:=S.tb.base
def Tb.has(T:Tb G h)(e:G.h₀.get? b=some o):∃o',h.get? b=some o':=by
 by_cases q:b=G.cP
 .refine bq T.grown λ_ _ _ y=>?_;exact⟨_,q▸y⟩
 exact⟨o,T.rest b o q e⟩
def Tb.none(T:Tb G h)(e:h.get? b=none):G.h₀.get? b=none:=by
 cases z:G.h₀.get? b with
 |none=>rfl
 |some o=>refine aO (T.has z) λo' e'=>?_;rw[e]at e';exact cG e'
def Gs.ext(S:Gs G X s.heap)(e:Ext G s s'):Gs G X s'.heap:=
 ⟨e.tb S.tb,λa x=>aO (S.live a x) λo q=>e.there _ _ q,S.new⟩
def Gs.sub(S:Gs G X h)(k:∀a,X' a->X a):Gs G X' h:=⟨S.tb,λa x=>S.live a (k a x),λa x=>S.new a (k a x)⟩
def Gs.fresh(S:Gs G X h):¬X h.objs.size:=λx=>by refine aO (S.live _ x) λo e=>?_;exact absurd (VD e) (Vw _)
def Ns.b4{h h':Heap}(x:h.Ns a m)(k:∀o,nv o->h.get? a=some o->h'.get? a=some o):h'.Ns a m:=by refine fq x λo es ep e d r=>?_;exact⟨o,es,ep,k o (fY d) e,d,r⟩
def Cell.b4{h h':Heap}(x:h.IsCell a m)(k:∀o,nv o->h.get? a=some o->h'.get? a=some o):h'.IsCell a m:=by refine ao x λo e d=>?_;exact⟨o,k o (De d) e,d⟩
def List.b4{h h':Heap}(x:h.PlainList a vs)(k:∀o,nv o->h.get? a=some o->h'.get? a=some o):h'.PlainList a vs:=by refine aO x λn e=>?_;exact⟨n,k _ (c9 rfl) e⟩
def Dict.b4{M:Type}[DecidableEq M]{kd:PySem.KeyKind prog w M}{h h':Heap}{vs:List (M×Value)}(x:h.DictOf kd a vs)(k:∀o,nv o->h.get? a=some o->h'.get? a=some o):h'.DictOf kd a vs:=by refine eR x λo es ep e r=>?_;exact⟨o,es,ep,k o (fY r.2.1) e,r⟩
def Holds.keeps(k:∀b o,nv o->h.get? b=some o->h'.get? b=some o)(y:Holds env h x ov):Holds env h' x ov:=by
 rcases y with⟨a,m,b,c⟩|⟨a,c,b,d⟩
 .exact .inl ⟨a,m,Ns.b4 b (k _),c⟩
 exact .inr ⟨a,c,b,Cell.b4 d (k _)⟩
def bt.move{X X':XS}{a:Addr}(ha:∀o,nv o->h.get? a=some o->h'.get? a=some o)(k:Ok X h X' h')(y:bt G h X a d):bt G h' X' a d:=by
 induction d using D.casesOn with
 |list ds=>refine ao y λvs h1 h2=>?_;exact⟨vs,List.b4 h1 ha,aK.move k _ _ h2⟩
 |aG ds=>refine mH y λh0 vs h1 h2=>?_;exact⟨h0,vs,Dict.b4 h1 ha,cT.move k _ _ h2⟩
 |cF ds=>refine mH y λh0 vs h1 h2=>?_;exact⟨h0,vs,Dict.b4 h1 ha,dN.move k _ _ h2⟩
 |_=>exact y.elim
def l9.keeps(k:∀b o,nv o->h.get? b=some o->h'.get? b=some o)(y:l9 G F h X x sl):l9 G F h' X x sl:=by
 induction sl using Slot.casesOn with
 |no=>trivial
 |val d=>refine ao y λv a b=>?_;exact⟨v,a.keeps k,Rep.move (Ok.keep k) _ _ b⟩
 |own a d=>exact⟨y.1.imp id λz=>z.keeps k,y.2.1,y.2.2.1,y.2.2.2.1,y.2.2.2.2.move (k a) (Ok.keep k)⟩
def St.ext(S:St G F X ρ s.heap)(e:Ext G s s'):St G F X ρ s'.heap where
 ok:=S.ok
 gs:=S.gs.ext e
 sub:=S.sub
 xL:=S.xL
 ns:=aO S.ns λm q=>⟨m,Ns.b4 q (e.keep _)⟩
 cells:=λx c q=>uA (S.cells x c q) λa ov b=>⟨a,ov,Cell.b4 b (e.keep _)⟩
 len:=S.len
 uk:=S.uk
 slots:=λi x sl h1 h2=>(S.slots i x sl h1 h2).keeps e.keep
def St.uh(S:St G F X ρ h):∀a,F.lk k X a->X a:=λa x=>by
 induction k using Bool.casesOn with
 |true=>exact S.sub a x
 |false=>exact x
def St.ph(S:St G F X ρ h):Gs G (F.lk k X) h:=S.gs.sub S.uh
structure ec(A:Around)(n:Nat):Prop where
 handled:A.handled=none
 depth:A.depth+n<recursionLimit
 units:A.units+20*n+100<cLine
noncomputable abbrev M(G:Gd):Model:=model G.prog G.w
def ay{α:Type}{M:Model}{t:Sem α}{P Q R:α->Shared->Prop}(h:wpAny M A t (λa s=>P a s/\Q a s) E s)(k:∀a s,P a s->Q a s->R a s):wpAny M A t R E s:=VW h (λa s q=>k a s q.1 q.2) λ_ _ f=>f
noncomputable abbrev ff:Value->Shared->Prop:=λ_ _=>False
def sr{α:Type}{M:Model}{t:Sem α}{Q P1 P2:α->Shared->Prop}(h:wpAny M A t (λa s=>P1 a s/\P2 a s) ff s)(k:∀a s,P1 a s->P2 a s->Q a s):wpAny M A t Q E s:=VW h (λa s q=>k a s q.1 q.2) λ_ _ f=>f.elim
def Ae{α:Type}{M:Model}{t:Sem α}{Q P1 P2 P3 P4:α->Shared->Prop}(h:wpAny M A t (λa s=>P1 a s/\P2 a s/\P3 a s/\P4 a s) ff s)(k:∀a s,P1 a s->P2 a s->P3 a s->P4 a s->Q a s):wpAny M A t Q E s:=VW h (λa s q=>k a s q.1 q.2.1 q.2.2.1 q.2.2.2) λ_ _ f=>f.elim
def mr{α β γ δ:Type}{M:Model}{t:Sem α}{Q:α->Shared->Prop}{P1 P2 P3 P4:α->Shared->β->γ->δ->Prop}(h:wpAny M A t (λa s=>∃x1,∃x2,∃x3,P1 a s x1 x2 x3/\P2 a s x1 x2 x3/\P3 a s x1 x2 x3/\P4 a s x1 x2 x3) ff s)(k:∀a s,∀x1,∀x2,∀x3,P1 a s x1 x2 x3->P2 a s x1 x2 x3->P3 a s x1 x2 x3->P4 a s x1 x2 x3->Q a s):wpAny M A t Q E s:=VW h (λa s q=>Exists.elim q λx1 q1=>Exists.elim q1 λx2 q2=>Exists.elim q2 λx3 q3=>k a s x1 x2 x3 q3.1 q3.2.1 q3.2.2.1 q3.2.2.2) λ_ _ f=>f.elim
def jt{α β γ δ:Type}{M:Model}{t:Sem α}{Q:α->Shared->Prop}{P1 P2 P3 P4:α->Shared->β->γ->δ->Prop}(h:wpAny M A t (λa s=>∃x1,∃x2,∃x3,P1 a s x1 x2 x3/\P2 a s x1 x2 x3/\P3 a s x1 x2 x3/\P4 a s x1 x2 x3) E s)(k:∀a s,∀x1,∀x2,∀x3,P1 a s x1 x2 x3->P2 a s x1 x2 x3->P3 a s x1 x2 x3->P4 a s x1 x2 x3->Q a s):wpAny M A t Q E s:=VW h (λa s q=>Exists.elim q λx1 q1=>Exists.elim q1 λx2 q2=>Exists.elim q2 λx3 q3=>k a s x1 x2 x3 q3.1 q3.2.1 q3.2.2.1 q3.2.2.2) λ_ _ f=>f
def jO{α β γ δ:Type}{M:Model}{t:Sem α}{Q P1:α->Shared->Prop}{P2 P3 P4 P5:α->Shared->β->γ->δ->Prop}(h:wpAny M A t (λa s=>P1 a s/\∃x1,∃x2,∃x3,P2 a s x1 x2 x3/\P3 a s x1 x2 x3/\P4 a s x1 x2 x3/\P5 a s x1 x2 x3) E s)(k:∀a s,P1 a s->∀x1,∀x2,∀x3,P2 a s x1 x2 x3->P3 a s x1 x2 x3->P4 a s x1 x2 x3->P5 a s x1 x2 x3->Q a s):wpAny M A t Q E s:=VW h (λa s q=>Exists.elim q.2 λx1 q1=>Exists.elim q1 λx2 q2=>Exists.elim q2 λx3 q3=>k a s q.1 x1 x2 x3 q3.1 q3.2.1 q3.2.2.1 q3.2.2.2) λ_ _ f=>f
def El{α:Type}{M:Model}{t:Sem α}{Q P1 P2 P3 P4:α->Shared->Prop}(h:wpAny M A t (λa s=>P1 a s/\P2 a s/\P3 a s/\P4 a s) E s)(k:∀a s,P1 a s->P2 a s->P3 a s->P4 a s->Q a s):wpAny M A t Q E s:=VW h (λa s q=>k a s q.1 q.2.1 q.2.2.1 q.2.2.2) λ_ _ f=>f
def qy{α β:Type}{M:Model}{t:Sem α}{Q:α->Shared->Prop}{g:β->α}{P:Shared->β->Prop}(h:wpAny M A t (λa s=>∃v,a=g v/\P s v) ff s)(k:∀v s,P s v->Q (g v) s):wpAny M A t Q E s:=VW h (λa s q=>Exists.elim q λv q=>by rw[q.1];exact k v s q.2) λ_ _ f=>f.elim
def wy{α:Type}{M:Model}{t:Sem α}{Q:α->Shared->Prop}{c:α}{P:Shared->Prop}(h:wpAny M A t (λa s=>a=c/\P s) ff s)(k:∀s,P s->Q c s):wpAny M A t Q E s:=VW h (λa s q=>by rw[q.1];exact k s q.2) λ_ _ f=>f.elim
noncomputable def Ev(G:Gd)(F:Fx)(n:Nat)(ρ:RE)(k:Bool)(e:Expr)(d:D):Prop:=
 ∀(A:Around) (s:Shared) (X:XS),ec A n->St G F X ρ s.heap->wpAny (M G) A (eval e F.env) (λv s'=>Ext G s s'/\Rep G s'.heap (F.lk k X) d v) ff s
noncomputable def b8(G:Gd)(F:Fx)(n:Nat)(ρ:RE)(k:Bool)(es:List Expr)(ds:List D):Prop:=
 ∀(A:Around) (s:Shared) (X:XS) (pos:Pos),ec A n->St G F X ρ s.heap->wpAny (M G) A (spliced (backTo pos (starEach es F.env))) (λvs s'=>Ext G s s'/\aK G s'.heap (F.lk k X) ds vs) ff s
noncomputable def cv(G:Gd)(F:Fx)(n:Nat)(ρ:RE)(e:Expr)(b:Bool):Prop:=
 ∀(A:Around) (s:Shared) (X:XS),ec A n->St G F X ρ s.heap->wpAny (M G) A (isTrue e F.env (eval e F.env)) (λc s'=>c=b/\Ext G s s') ff s
section
variable{G:Gd}{F:Fx}{n:Nat}{ρ:RE}{k:Bool}
def Ev.atom{d:D}(x:Ev G F n ρ true e d)(ha:autoParam (d.atom=true) tR):Ev G F n ρ k e d:=λA s X R S=>ay (x A s X R S) (λ_ _ h1 h2=>⟨h1,h2.atom ha⟩)
def Ev.lk{d:D}(x:Ev G F n ρ false e d):Ev G F n ρ k e d:=λA s X R S=>ay (x A s X R S) (λ_ _ h1 h2=>⟨h1,Rep.move (Ok.sub S.uh) _ _ h2⟩)
def Ev.cw:Ev G F n ρ k (.Constant (.int i) j pos) (.int i):=λ_ _ _ _ _=>wpAny_Constant_int ⟨.toks,bO⟩
def Ev.IL:Ev G F n ρ k (.Constant (.str i) j pos) (.str i):=λ_ _ _ _ _=>wpAny_Constant_str ⟨.toks,gH⟩
def Ev.KR:Ev G F n ρ k (.Constant (.bool i) j pos) (.bool i):=λ_ _ _ _ _=>wpAny_Constant_bool ⟨.refl _,dB⟩
def Ev.Ej:Ev G F n ρ k (.Constant .none j pos) .none:=λ_ _ _ _ _=>wpAny_Constant_none ⟨.refl _,AO⟩
def dy(ok:zP env)(y:Holds env s.heap x (some v))(h:Q v s)
 (hn:(x==("__classdict__":Str))=false):wpAny (M G) A (loadName env x) Q E s:=by
 rcases y with⟨a,m,b,c⟩|⟨a|a,c,b,d⟩
 .exact wpAny_loadName_local ok.kind a b c h
 .exact wpAny_loadName_cell ok.kind a b d h
 exact wpAny_loadName_free ok.kind a b d h hn
def Ev.name (i:Nat) (hi:F.vars[i]? =some x) (hm:ρ[i]? =some (Slot.val d)) (hd:autoParam ((x==("__debug__":Str))=false) tD) (hn:autoParam ((x==("__classdict__":Str))=false) tD):
 Ev G F n ρ k (.Name x pos) d:=Ev.lk λA s X R S=>by
 refine ao (S.slots i _ _ hi hm) λv hv hr=>?_;exact VY (dy S.ok hv ⟨.refl _,hr⟩ hn) hd
def bt.rep(o:bt G h X a d)(s:∀b,X' b->X b)(na:¬X' a):Rep G h X' d (.ref a):=by
 have z:Ok X h X' h:=Ok.sub s;induction d using D.casesOn with
 |list ds=>refine ao o λvs h1 h2=>?_;exact aA.mpr ⟨a,vs,rfl,na,h1,aK.move z _ _ h2⟩
 |aG ds=>refine mH o λh0 vs h1 h2=>?_;exact cj.mpr ⟨a,vs,rfl,na,h0,h1,cT.move z _ _ h2⟩
 |cF ds=>refine mH o λh0 vs h1 h2=>?_;exact dC.mpr ⟨a,vs,rfl,na,h0,h1,dN.move z _ _ h2⟩
 |_=>exact o.elim
def Ev.Dh (i:Nat) (hi:F.vars[i]? =some x) (hm:ρ[i]? =some (Slot.own a d)) (hd:autoParam ((x==("__debug__":Str))=false) tD) (hn:autoParam ((x==("__classdict__":Str))=false) tD) (eH:autoParam ((x==accN)=false) tD):
 Ev G F n ρ true (.Name x pos) d:=λA s X R S=>by
 refine dk (S.slots i _ _ hi hm) λhv _ hx _ hr=>?_;replace hv:=hv.resolve_left (fP eH);exact VY (dy S.ok hv ⟨.refl _,hr.rep S.sub hx⟩ hn) hd
def b8.nil:b8 G F n ρ k [] []:=λ_ _ _ _ _ _=>U8 ⟨.refl _,b6⟩
def b8.cons{d:D}(a:Ev G F n ρ k e d)(b:b8 G F n ρ k es ds)
 (he:autoParam (starEach (e::es) F.env=(false,eval e F.env)::starEach es F.env) tR):b8 G F n ρ k (e::es) (d::ds):=λA s X pos R S=>
 UK (ay (a A s X R S) (λv aw h1 h2=>ay (b A aw X pos R (S.ext h1)) (λvs au h3 h4=>⟨h1.trans h3,a0 (h3.rep h2) h4⟩))) he
def iV{h:Heap}:(h.push {cls:=.type "tuple",data:=.seq vs.toArray}).IsTuple h.objs.size (toArray vs):=
 ⟨_,TG _ rfl,rfl,0,rfl⟩
def dU{h:Heap}:(h.push {cls:=.type "list",data:=.seq vs.toArray}).PlainList h.objs.size (toArray vs):=
 ⟨0,TG _ rfl⟩
def Ev.tup{es:List Expr}(a:b8 G F n ρ k es ds)(hsz:autoParam (ds.length<=sizeLine) tD):Ev G F n ρ k (.Tuple es j pos) (.tup ds):=λA s X R S=>wpAny_Tuple (ay (a A s X pos R S) (λvs aw h1 h2=>⟨by rw[h2.length];exact hsz,h1.trans .push,aQ.mpr ⟨_,vs,rfl,(S.ext h1).ph.fresh,iV,Ext.push.pk h2⟩⟩))
def Ev.list{es:List Expr}(a:b8 G F n ρ k es ds)(hsz:autoParam (ds.length<=sizeLine) tD):Ev G F n ρ k (.List es pos) (.list ds):=λA s X R S=>wpAny_List (ay (a A s X pos R S) (λvs aw h1 h2=>⟨by rw[h2.length];exact hsz,h1.trans .push,aA.mpr ⟨_,vs,rfl,(S.ext h1).ph.fresh,dU,Ext.push.pk h2⟩⟩))
noncomputable def P1(G:Gd)(n:Nat)(d:D)(t:Value->Sem Value)(r:D):Prop:=
 ∀(A:Around) (s:Shared) (X:XS) (v:Value),ec A n->Gs G X s.heap->Rep G s.heap X d v->wpAny (M G) A (t v) (λu s'=>Ext G s s'/\Rep G s'.heap X r u) ff s
noncomputable def P2(G:Gd)(n:Nat)(bL cN:D)(t:Value->Value->Sem Value)(r:D):Prop:=
 ∀(A:Around) (s:Shared) (X:XS) (fK ey:Value),ec A n->Gs G X s.heap->Rep G s.heap X bL fK->Rep G s.heap X cN ey->wpAny (M G) A (t fK ey) (λu s'=>Ext G s s'/\Rep G s'.heap X r u) ff s
noncomputable def PL(G:Gd)(n:Nat)(ds:List D)(t:List Value->Sem Value)(r:D):Prop:=
 ∀(A:Around) (s:Shared) (X:XS) (vs:List Value),ec A n->Gs G X s.heap->aK G s.heap X ds vs->wpAny (M G) A (t vs) (λu s'=>Ext G s s'/\Rep G s'.heap X r u) ff s
noncomputable def PT(G:Gd)(n:Nat)(d:D)(b:Bool):Prop:=
 ∀(A:Around) (s:Shared) (X:XS) (v:Value),ec A n->Gs G X s.heap->Rep G s.heap X d v->wpAny (M G) A (truthy v) (λc s'=>c=b/\Ext G s s') ff s
def Ev.bin{pos:Pos}(a:Ev G F n ρ k l bL)(b:Ev G F n ρ k r cN)(p:P2 G n bL cN (binaryOp op) d):Ev G F n ρ k (.BinOp l op r pos) d:=λA s X R S=>wpAny_BinOp (ay (a A s X R S) (λv aw h1 h2=>ay (b A aw X R (S.ext h1)) (λu au h3 h4=>ay (p A au _ v u R ((S.ext h1).ext h3).ph (h3.rep h2) h4) (λz d7 h5 h6=>⟨(h1.trans h3).trans h5,h6⟩))))
def Ev.un{pos:Pos}(a:Ev G F n ρ k x bL)(p:P1 G n bL (unaryOp op) d):Ev G F n ρ k (.UnaryOp op x pos) d:=λA s X R S=>wpAny_UnaryOp (ay (a A s X R S) (λv aw h1 h2=>ay (p A aw _ v R (S.ext h1).ph h2) (λz d7 h5 h6=>⟨h1.trans h5,h6⟩)))
def Ev.cmp{pos:Pos}(x:Ev G F n ρ true l bL)(y:Ev G F n ρ true r cN)(p:P2 G n bL cN (compareOp op) (.bool b))
 (hm:autoParam (behindInMarks op r=false) tWu):Ev G F n ρ k (.Compare l [op] [r] pos) (.bool b):=λA s X R S=>
 wpAny_Compare1 (ay (x A s X R S) (λv aw h1 h2=>ay (y A aw X R (S.ext h1)) (λu au h3 h4=>ay (p A au _ v u R ((S.ext h1).ext h3).ph (h3.rep h2) h4) (λz d7 h5 h6=>⟨(h1.trans h3).trans h5,h6.atom rfl⟩)))) hm
def cv.cmp{l r:Expr}(x:Ev G F n ρ true l bL)(y:Ev G F n ρ true r cN)(p:P2 G n bL cN (compareOp op) (.bool b))
 (hm:autoParam (behindInMarks op r=false) tWu):cv G F n ρ (.Compare l [op] [r] pos) b:=λA s X R S=>
 wpAny_isTrue_Compare1 (ay (x A s X R S) (λv aw h1 h2=>ay (y A aw X R (S.ext h1)) (λu au h3 h4=>ay (p A au _ v u R ((S.ext h1).ext h3).ph (h3.rep h2) h4) (λz d7 h5 h6=>by obtain rfl:=dY.mp h6;exact wpAny_truthy_bool ⟨rfl,(h1.trans h3).trans h5⟩)))) hm
def cv.val{d:D}(x:Ev G F n ρ true e d)(p:PT G n d b)
 (he:autoParam (isTrue e F.env (eval e F.env)=(do let v<-eval e F.env;standAt e.pos;holding [v] (truthy v))) tR):cv G F n ρ e b:=λA s X R S=>
 wpAny_isTrue_value (ay (x A s X R S) (λv aw h1 h2=>ay (p A aw _ v R (S.ext h1).ph h2) (λc au h3 h4=>⟨h3,h1.trans h4⟩))) he
def cv.to(x:cv G F n ρ e b)(h:b=c):cv G F n ρ e c:=h▸x
def cv.not{pos:Pos}(x:cv G F n ρ e b):cv G F n ρ (.UnaryOp .Not e pos) (!b):=λA s X R S=>wpAny_isTrue_Not (ay (x A s X R S) (λc aw h1 h2=>⟨by rw[h1],h2⟩))
def cv.and_nil:cv G F n ρ (.BoolOp .And [] pos) true:=λA s X R S=>wpAny_isTrue_BoolOp (wpAny_allTrue_And_nil ⟨rfl,.refl _⟩)
def cv.or_nil:cv G F n ρ (.BoolOp .Or [] pos) false:=λA s X R S=>wpAny_isTrue_BoolOp (wpAny_allTrue_Or_nil ⟨rfl,.refl _⟩)
def cv.and_cons{e:Expr}(x:cv G F n ρ e b)(y:b=true->cv G F n ρ (.BoolOp .And es pos) c):cv G F n ρ (.BoolOp .And (e::es) pos) (b&&c):=λA s X R S=>
 wpAny_isTrue_BoolOp (wpAny_allTrue_And_cons (ay (x A s X R S) (λz aw h1 h2=>by
  subst h1;induction z using Bool.casesOn with
  |false=>exact⟨rfl,h2⟩
  |true=>exact ay (y rfl A aw X R (S.ext h2)) (λ_ _ h3 h4=>⟨h3,h2.trans h4⟩))))
def cv.or_cons{e:Expr}(x:cv G F n ρ e b)(y:b=false->cv G F n ρ (.BoolOp .Or es pos) c):cv G F n ρ (.BoolOp .Or (e::es) pos) (b||c):=λA s X R S=>
 wpAny_isTrue_BoolOp (wpAny_allTrue_Or_cons (ay (x A s X R S) (λz aw h1 h2=>by
  subst h1;induction z using Bool.casesOn with
  |true=>exact⟨rfl,h2⟩
  |false=>exact ay (y rfl A aw X R (S.ext h2)) (λ_ _ h3 h4=>⟨h3,h2.trans h4⟩))))
def Ev.ite{t b o:Expr}(x:cv G F n ρ t c)(y:c=true->Ev G F n ρ k b d)(z:c=false->Ev G F n ρ k o d):Ev G F n ρ k (.IfExp t b o pos) d:=λA s X R S=>
 wpAny_IfExp (ay (x A s X R S) (λw aw h1 h2=>by
  subst h1;induction w using Bool.casesOn with
  |true=>exact ay (y rfl A aw X R (S.ext h2)) (λ_ _ h3 h4=>⟨h2.trans h3,h4⟩)
  |false=>exact ay (z rfl A aw X R (S.ext h2)) (λ_ _ h3 h4=>⟨h2.trans h3,h4⟩)))
end
end
section
variable{G:Gd}{n:Nat}
def P2.int
 (h:∀(A:Around) (s:Shared) (x y:Tok),A.handled=none->wpAny (M G) A (t (.int a x) (.int b y)) (λv s'=>Ext G s s'/\∃z,v=.int c z) ff s):P2 G n (.int a) (.int b) t (.int c):=λA s X fK ey R S dK dJ=>by
 obtain⟨x,rfl⟩:=ak.mp dK;obtain⟨y,rfl⟩:=ak.mp dJ;exact VW (h A s x y R.handled) (λv s' m8=>uA m8 λh1 z h2=>⟨h1,h2▸bO⟩) λ_ _ f=>f
def p_add:P2 G n (.int a) (.int b) (binaryOp .Add) (.int (a+b)):=P2.int λ_ _ _ _ _=>add_int ⟨.toks,_,rfl⟩
def pV:P2 G n (.int a) (.int b) (binaryOp .Sub) (.int (a - b)):=P2.int λ_ _ _ _ _=>sub_int ⟨.toks,_,rfl⟩
def pW(h:IntMulOk a b):P2 G n (.int a) (.int b) (binaryOp .Mult) (.int (a*b)):=P2.int λ_ _ _ _ _=>mul_int ⟨.toks,_,rfl⟩ h
def mF(h:b≠0):P2 G n (.int a) (.int b) (binaryOp .Mod) (.int (a.fmod b)):=P2.int λ_ _ _ _ _=>mod_int' h ⟨.toks,_,rfl⟩
def Ei(h:b≠0)(hp:(Builtin.divisionGoesByPylong a b)=false):P2 G n (.int a) (.int b) (binaryOp .FloorDiv) (.int (a.fdiv b)):=P2.int λ_ _ _ _ _=>floordiv_int h ⟨.toks,_,rfl⟩ (Or.inl hp)
def J1(h0:0<=b)(h1:b<=1000000)(h2:a.natAbs<2^64):P2 G n (.int a) (.int b) (binaryOp .Pow) (.int (a^b.toNat)):=P2.int λ_ _ _ _ _=>pow_int_small h0 h1 h2 ⟨.toks,_,rfl⟩
def ro:P2 G n (.int a) (.int b) (inplaceOp .Add) (.int (a+b)):=P2.int λ_ _ _ _ _=>wpAny_iadd_int ⟨.toks,_,rfl⟩
def Eh:P1 G n (.int a) (unaryOp .USub) (.int (-a)):=λA s X v R S r=>by obtain⟨x,rfl⟩:=ak.mp r;exact neg_int ⟨.toks,bO⟩
def P2.yW
 (h:∀(A:Around) (s:Shared) (x y:Tok),wpAny (M G) A (t (.int a x) (.int b y)) (λv s'=>v=.bool c/\s'=s) ff s):P2 G n (.int a) (.int b) t (.bool c):=λA s X fK ey R S dK dJ=>by
 obtain⟨x,rfl⟩:=ak.mp dK;obtain⟨y,rfl⟩:=ak.mp dJ;exact ay (h A s x y) (λv s' h1 h2=>⟨h2▸ .refl _,h1▸dB⟩)
def CH:P2 G n (.int a) (.int b) (compareOp .Lt) (.bool (decide (a<b))):=P2.yW λ_ _ _ _=>lt_int ⟨rfl,rfl⟩
def yS:P2 G n (.int a) (.int b) (compareOp .Gt) (.bool (decide (b<a))):=P2.yW λ_ _ _ _=>gt_int ⟨rfl,rfl⟩
def M8:P2 G n (.int a) (.int b) (compareOp .LtE) (.bool (decide (a<=b))):=P2.yW λ_ _ _ _=>le_int ⟨rfl,rfl⟩
def IS:P2 G n (.int a) (.int b) (compareOp .GtE) (.bool (decide (b<=a))):=P2.yW λ_ _ _ _=>ge_int ⟨rfl,rfl⟩
def CI:P2 G n (.int a) (.int b) (compareOp .Eq) (.bool (decide (a=b))):=P2.yW λ_ _ _ _=>eq_int ⟨by congr 1,rfl⟩
def xS:P2 G n (.bool a) (.bool b) (compareOp .Is) (.bool (a==b)):=λA s X fK ey R S dK dJ=>by
 obtain rfl:=dY.mp dK;obtain rfl:=dY.mp dJ;have e:isSame (.bool a) (.bool b)=pure (Value.bool a==Value.bool b):=rfl;refine(?_:wpAny _ _ (isSame (Value.bool a) (Value.bool b)>>=λr=>pure (Value.bool r)) _ _ s);rw[e];have e2:(Value.bool a==Value.bool b)=(a==b):=by induction a using Bool.casesOn<;>induction b using Bool.casesOn<;>rfl
 rw[e2];exact VV ⟨.refl _,dB⟩
def zY:PT G n (.bool b) b:=λA s X v R S r=>by obtain rfl:=dY.mp r;exact wpAny_truthy_bool ⟨rfl,.refl _⟩
end
mutual
noncomputable def D.py:D->PyData
 |.none=>.none
 |.bool b=>.bool b
 |.int i=>.int i
 |.str x=>.str x
 |.list xs=>.list (m7 xs)
 |.tup xs=>.tuple (m7 xs)
 |_=>.none
noncomputable def m7:List D->List PyData
 |[]=>[]
 |d::ds=>d.py::m7 ds
end
def zm:m7 []=[]:=rfl
def pU:m7 (d::ds)=d.py::m7 ds:=rfl
mutual
noncomputable def D.flat:D->Bool
 |.none|.bool _|.int _=>true
 |.str x=>PyData.strOk x
 |.list xs=>dA xs
 |.tup xs=>dA xs
 |_=>false
noncomputable def dA:List D->Bool
 |[]=>true
 |d::ds=>d.flat&&dA ds
end
section
variable{G:Gd}{h:Heap}{X:XS}
mutual
theorem Rep.reads:∀{d:D} {v:Value},d.flat=true->Rep G h X d v->∃as,Reads h v d.py as
 |.none,v,_,r=>by rw[lM.mp r];exact⟨_,.none⟩
 |.bool b,v,_,r=>by rw[dY.mp r];exact⟨_,.bool b⟩
 |.int i,v,_,r=>by obtain⟨t,rfl⟩:=ak.mp r;exact⟨_,.int i t⟩
 |.str i,v,_,r=>by obtain⟨t,rfl⟩:=aM.mp r;exact⟨_,.str i t⟩
 |.list xs,v,f,r=>by obtain⟨a,vs,rfl,_,⟨o,ho⟩,hr⟩:=aA.mp r;refine aO (aK.reads (ds:=xs) f hr) λas ha=>?_;exact⟨_,Reads.list ho rfl rfl ha⟩
 |.tup xs,v,f,r=>by obtain⟨a,vs,rfl,_,⟨o,ho,hc,m,hd⟩,hr⟩:=aQ.mp r;refine aO (aK.reads (ds:=xs) f hr) λas ha=>?_;exact⟨_,Reads.tuple ho hc hd ha⟩
 |.aG _,_,f,_=>fR f
 |.cF _,_,f,_=>fR f
 |.judge _,_,f,_=>fR f
theorem aK.reads:∀{ds:List D} {vs:List Value},dA ds=true->aK G h X ds vs->∃as,ReadsAll h vs (m7 ds) as
 |[],vs,_,r=>by rw[aE.mp r];exact⟨_,.nil⟩
 |d::ds,vs,f,r=>by
  obtain⟨v,u,rfl,hv,hu⟩:=af.mp r;have f':d.flat=true/\dA ds=true:=by rw[<-Uw];exact f
  refine aO (Rep.reads f'.1 hv) λas ha=>?_;refine aO (aK.reads f'.2 hu) λbs hb=>?_;exact⟨_,.cons ha hb⟩
end
mutual
theorem D.canLay:∀{d:D},d.flat=true->d.py.canLay0=true
 |.none,_=>rfl
 |.bool _,_=>rfl
 |.int _,_=>rfl
 |.str x,f=>by trivial
 |.list xs,f=>by have:=lq (ds:=xs) f;trivial
 |.tup xs,f=>by have:=lq (ds:=xs) f;trivial
 |.aG _,f=>fR f
 |.cF _,f=>fR f
 |.judge _,f=>fR f
theorem lq:∀{ds:List D},dA ds=true->PyData.canLayAll0 (m7 ds)=true
 |[],_=>rfl
 |d::ds,f=>by
  have f':d.flat=true/\dA ds=true:=by rw[<-Uw];exact f
  simp[pU,PyData.canLayAll0,D.canLay f'.1,lq f'.2]
end
end
noncomputable def D.eqv(a b:D):Bool:=PyData.eqv a.py b.py
mutual
noncomputable def D.deep:D->Nat
 |.list xs=>b5 xs+1
 |.tup xs=>b5 xs+1
 |_=>0
noncomputable def b5:List D->Nat
 |[]=>0
 |d::ds=>max d.deep (b5 ds)
end
def DJ:b5 (d::ds)=max d.deep (b5 ds):=rfl
mutual
theorem D.depth:∀(d:D),d.py.depth=d.deep
 |.none=>rfl
 |.bool _=>rfl
 |.int _=>rfl
 |.str _=>rfl
 |.list xs=>by show PyData.depth (.list (m7 xs))=b5 xs+1;simp[PyData.depth,vd xs]
 |.tup xs=>by show PyData.depth (.tuple (m7 xs))=b5 xs+1;simp[PyData.depth,vd xs]
 |.aG _=>rfl
 |.cF _=>rfl
 |.judge _=>rfl
theorem vd:∀(ds:List D),PyData.depthAll (m7 ds)=b5 ds
 |[]=>rfl
 |d::ds=>by simp[pU,PyData.depthAll,DJ,D.depth d,vd ds]
end
def wj(ds:List D):m7 ds=ds.map D.py:=by
 induction ds with
 |nil=>rfl
 |cons d ds ih=>exact V4 _ ‹_›
section
variable{G:Gd}{n:Nat}
def J6{a b:D}(fa:a.flat=true)(fb:b.flat=true)(da:a.deep<=20):P2 G n a b (compareOp .Eq) (.bool (a.eqv b)):=λA s X fK ey R S dK dJ=>by refine aO (dK.reads fa) λas ha=>?_;refine aO (dJ.reads fb) λbs hb=>?_;refine compareEq_reads ha hb (D.canLay fa) (D.canLay fb) ?_ ⟨.refl _,dB⟩;have:=R.units;have h2:min a.py.depth b.py.depth<=a.py.depth:=Nat.min_le_left _ _;have h3:=D.depth a;exact(A6 [.e Va (.c 20),.l (.a (.a Vb (.m 20 Vc)) q0) Vd,.q Ve Va] (.l (.a Vb (.i Ve Vf)) Vd)) da this h3
def J2{a b:D}(fa:a.flat=true)(fb:b.flat=true)(da:a.deep<=20):P2 G n a b (compareOp .NotEq) (.bool (!a.eqv b)):=λA s X fK ey R S dK dJ=>by refine aO (dK.reads fa) λas ha=>?_;refine aO (dJ.reads fb) λbs hb=>?_;refine compareNe_reads ha hb (D.canLay fa) (D.canLay fb) ?_ ⟨.refl _,dB⟩;have:=R.units;have h2:min a.py.depth b.py.depth<=a.py.depth:=Nat.min_le_left _ _;have h3:=D.depth a;exact(A6 [.e Va (.c 20),.l (.a (.a Vb (.m 20 Vc)) q0) Vd,.q Ve Va] (.l (.a Vb (.i Ve Vf)) Vd)) da this h3
def J4{xs:List D}(fx:x.flat=true)(IC:dA xs=true)(dx:x.deep<=20):P2 G n x (.list xs) (compareOp .In) (.bool (xs.any λy=>y.eqv x)):=λA s X fK ey R S dK dJ=>by
 refine aO (dK.reads fx) λas ha=>?_;refine aO (dJ.reads (show D.flat (.list xs)=true from IC)) λbs hb=>?_;have e:D.py (.list xs)=.list (m7 xs):=rfl;rw[e]at hb;refine in_list_reads hb ha (lq IC) (D.canLay fx) ?_ ?_
 .have:=R.units;have h2:min (PyData.depthAll (m7 xs)) x.py.depth<=x.py.depth:=Nat.min_le_right _ _;have h3:=D.depth x;exact(A6 [.e Va (.c 20),.l (.a (.a Vb (.m 20 Vc)) q0) Vd,.q Ve Va] (.l (.a f9 (.i Vf Ve)) Vd)) dx this h3
 rw[wj,any_map];exact⟨.refl _,dB⟩
def AW{xs:List D}(fx:x.flat=true)(IC:dA xs=true)(dx:x.deep<=20):P2 G n x (.list xs) (compareOp .NotIn) (.bool (!xs.any λy=>y.eqv x)):=λA s X fK ey R S dK dJ=>by
 refine aO (dK.reads fx) λas ha=>?_;refine aO (dJ.reads (show D.flat (.list xs)=true from IC)) λbs hb=>?_;have e:D.py (.list xs)=.list (m7 xs):=rfl;rw[e]at hb;refine notIn_list_reads hb ha (lq IC) (D.canLay fx) ?_ ?_
 .have:=R.units;have h2:min (PyData.depthAll (m7 xs)) x.py.depth<=x.py.depth:=Nat.min_le_right _ _;have h3:=D.depth x;exact(A6 [.e Va (.c 20),.l (.a (.a Vb (.m 20 Vc)) q0) Vd,.q Ve Va] (.l (.a f9 (.i Vf Ve)) Vd)) dx this h3
 rw[wj,any_map];exact⟨.refl _,dB⟩
def nM:P2 G n (.str a) (.str b) (compareOp .Eq) (.bool (decide (a=b))):=λA s X fK ey R S dK dJ=>by
 obtain⟨x,rfl⟩:=aM.mp dK;obtain⟨y,rfl⟩:=aM.mp dJ;refine eq_str ⟨.refl _,?_⟩;have e:(a==b)=decide (a=b):=by by_cases h:a=b<;>rfl
 rw[e];exact dB
def GF(hsz:a.length+b.length<=sizeLine):P2 G n (.str a) (.str b) (binaryOp .Add) (.str (a++b)):=λA s X fK ey R S dK dJ=>by obtain⟨x,rfl⟩:=aM.mp dK;obtain⟨y,rfl⟩:=aM.mp dJ;exact add_str (λ_ _=>⟨.toks,gH⟩) hsz
def J3:P2 G n (.str b) (.str a) (compareOp .In) (.bool (!(Builtin.Str.occurrences a b 0 a.length 1).isEmpty)):=λA s X fK ey R S dK dJ=>by obtain⟨x,rfl⟩:=aM.mp dK;obtain⟨y,rfl⟩:=aM.mp dJ;exact in_str ⟨.refl _,dB⟩
def uN(hsz:a.length+b.length<=sizeLine):P2 G n (.list a) (.list b) (binaryOp .Add) (.list (a++b)):=λA s X fK ey R S dK dJ=>by
 obtain⟨l,vs,rfl,hx,⟨k,ho⟩,hr⟩:=aA.mp dK;obtain⟨l',ws,rfl,w6,⟨k',iu⟩,uj⟩:=aA.mp dJ;have e:vs.toArray++ws.toArray=(vs++ws).toArray:=by simp
 have hz:vs.length+ws.length<=sizeLine:=by rw[hr.length,uj.length];exact hsz
 refine concat_meets ⟨_,ho,rfl⟩ ⟨_,iu,rfl⟩ noFill_list_add seq_list_add PySem.F.slot_list_add PySem.F.entry_list_add (PySem.F.args_list_add_2 _ _) (list_addW l l' vs.toArray ws.toArray k k' _ _ _ _ (by trivial)) ⟨ho,iu,?_⟩;rw[e];exact⟨.push,aA.mpr ⟨_,_,rfl,S.fresh,dU,(Ext.push.pk hr).append (Ext.push.pk uj)⟩⟩
def GD(h1:1<=x)(h2:x<100)(hsz:a.length*x.toNat<=2^24):P2 G n (.list a) (.int x) (binaryOp .Mult) (.list (replicate x.toNat a).flatten):=λA s X fK ey R S dK dJ=>by
 obtain⟨l,vs,rfl,hx,⟨k,ho⟩,hr⟩:=aA.mp dK;obtain⟨u,rfl⟩:=ak.mp dJ;have hz:vs.toArray.size*x.toNat<=2^24:=by rw[Ud,hr.length];exact hsz
 refine wpAny_binaryOp_repeat_ref (T:="list") (U:="int") (by rfl) ⟨_,ho,rfl⟩ (λs'=>typeIs_int s' x u) noFill_list_mul PySem.F.fills_int_mul PySem.F.slot_int_rmul repeat_list PySem.F.slot_int_index.lookup
  (call_meets PySem.F.slot_int_rmul (typeIs_int s x u) PySem.F.entry_int_rmul (PySem.F.args_int_rmul_2 _ _) (int___rmul___int_list x u l vs.toArray k)
   ⟨ho,rfl,⟨_,ho,rfl⟩,call_meets PySem.F.slot_list_mul ⟨_,ho,rfl⟩ PySem.F.entry_list_mul (PySem.F.args_list_mul_2 _ _)
    (AutoListH.list___mul___list_int_3 l vs.toArray k x u (by simp[Builtin.List.listFitsIndex];exact(I1 [.E K1 Qa,.L Qa q0] LI) h1 h2) (by lia) (by simp[Builtin.List.listTooLong,sizeLine];trivial))
    ⟨ho,?_⟩⟩)
 have key:∀(m:Nat) (acc:Array Value) (us:List Value) (es:List D),acc=us.toArray->aK G s.heap X es us->∃ws,foldl (λx1 x2=>x1++x2) acc (replicate m vs.toArray)=toArray ws/\aK G s.heap X (es++(replicate m a).flatten) ws:=by
  intro m;induction m with
  |zero=>intro acc us es e r;exact bH us (by simpa using e) (by simpa using r)
  |succ m ih=>intro acc us es e r;refine ao (ih (acc++vs.toArray) (us++vs) (es++a) (by rw[e];simp) (r.append hr)) λws h1 h2=>?_;refine bH ws (by simp only[replicate_succ,UY];exact h1) ?_;(simp only[replicate_succ];simp only[flatten_cons];rw[<-Uh]);exact h2
 have NA:(foldl (λx1 x2=>x1++x2) #[] (replicate (if vs.toArray.isEmpty=true then 0 else x.toNat) vs.toArray))=(foldl (λx1 x2=>x1++x2) #[] (replicate x.toNat vs.toArray)):=by
  by_cases hv:vs.toArray.isEmpty=true
  .rw[if_pos hv];have:vs=[]:=by simpa using hv
   subst this;generalize x.toNat=m;induction m with
   |zero=>rfl
   |succ m ih=>simp only[replicate_succ,UY];trivial
  rw[if_neg hv]
 refine ao (key x.toNat #[] [] [] rfl b6) λws e1 e2=>?_;(refine Eq.substr NA ?_;refine Eq.substr e1 ?_);exact⟨.push,aA.mpr ⟨_,_,rfl,S.fresh,dU,by simpa using Ext.push.pk e2⟩⟩
end
noncomputable def cut{α:Type}(xs:List α)(lo hi:Option Int):List α:=
 (xs.drop (lo.elim 0 (clipAt xs.length))).take (hi.elim xs.length (clipAt xs.length) - lo.elim 0 (clipAt xs.length))
noncomputable def jV(x:Str)(lo hi:Option Int):Str:=⟨(cut x.cps.toList lo hi).toArray⟩
def Str.tB{x y:Str}(h:x.cps.toList=y.cps.toList):x=y:=by induction x using Str.casesOn with|mk a=>induction y using Str.casesOn with|mk b=>cases a;cases b;simp at h;subst h;rfl
def oN(x:Str)(lo hi:Option Int):Txt.slice x lo hi=jV x lo hi:=by
 have e:Builtin.Str.strSliceIndices lo hi 1 x.length=sliceRange ((lo.elim 0 (clipAt x.length):Nat):Int) ((hi.elim x.length (clipAt x.length):Nat):Int) 1:=by unfold Builtin.Str.strSliceIndices;induction lo using Option.casesOn<;>induction hi using Option.casesOn<;>simp[clipAt_cast]
 have hl:x.length=x.cps.toList.length:=by simp[Str.length]
 unfold Txt.slice;rw[e,sliceRange_one];have f:∀(a m:Nat),((List.range m).map (a+·)).filterMap (x.cps[·]?)=(x.cps.toList.drop a).take m:=by
  intro a m;rw[filterMap_map];induction m with
  |zero=>simp
  |succ m ih=>
   simp only[U4,filterMap_append,ih,Ug];congr 1;rw[getElem?_drop,Array.getElem?_toList]
   cases h:x.cps[a+m]? <;>simp[filterMap_cons,Function.comp,h]
 rw[f];by_cases hc:((1:Int)==1&&((List.range ((hi.elim x.length (clipAt x.length)) - (lo.elim 0 (clipAt x.length)))).map ((lo.elim 0 (clipAt x.length))+·)).length==x.length)=true
 .rw[if_pos hc];have Iy:(hi.elim x.length (clipAt x.length)) - (lo.elim 0 (clipAt x.length))=x.length:=by simpa using hc
  apply Str.tB;refine(?_:_=cut x.cps.toList lo hi);unfold cut;rw[<-hl,Iy];have h0:lo.elim 0 (clipAt x.length)=0\/x.length=0:=by
   have:hi.elim x.length (clipAt x.length)<=x.length:=by
    induction hi using Option.casesOn with
    |none=>exact VP _
    |some i=>have:=clipAt_cast x.length i;simp only[Option.elim];exact(ar 2 3 [_,_] [_] [.Q bA (.j K0 (.i Qa ew))] (.e Va Vb)) this
   exact(A3 [.q vR Vc,.e Va Vc] (.o (.q Vb K0) (.q Vc K0))) Iy this
  rcases h0 with h0|h0
  ·(refine Eq.substr h0 ?_;refine Eq.substr Vp ?_;exact(V7 (SU (VP _))))
  have:x.cps.toList=[]:=by apply Sr;assumption
  rw[this];simp
 rw[if_neg hc];apply Str.tB;refine(?_:_=cut x.cps.toList lo hi);unfold cut;rw[<-hl]
section
variable{G:Gd}{F:Fx}{n:Nat}{ρ:RE}{k:Bool}
def fD{T id:String}(hT:s.TypeIs o T)
 (hl:typeLookup (.type T) "__getitem__"=pure (some (.builtin id)))(h:wpAny (M G) A (getItem o i) Q E s)
 (hs:subscripted slice false o i=operate ops (getItem o i)):
 wpAny (M G) A (subscriptTail value slice o i) Q E s:=by
 unfold subscriptTail;refine VU ?_;rw[getitemInPython_of_ne hT.not_modules];refine VU (wpAny_specialOf hT hl ?_);have fin:wpAny (M G) A (subscripted slice false o i) (λr d7=>wpAny (M G) A (letTemporaryGo value o r>>=λ_=>pure r) Q E d7) E s:=by rw[hs];exact wpAny_operating (VW h (λr d7 dM=>VU (wpAny_letTemporaryGo (VV dM))) λ_ _ x=>x)
 first
  |exact VV (VU fin)
  |exact VU (VV (VU fin))
  |exact VU fin
structure At{α:Type}(xs:List α)(i:Int)(d:α):Prop where
 ex:∃j:Nat,xs[j]? =some d/\(i=(j:Int)\/i=(j:Int) - xs.length)/\j<2^40/\xs.length<2^40
def At.nat{α:Type}{xs:List α}{j:Nat}{d:α}(h:xs[j]? =some d)(hz:xs.length<2^40):At xs (j:Int) d:=
 ⟨j,h,.inl rfl,by have:=(SF.mp h).1;exact Nat.lt_trans ‹_› ‹_›,hz⟩
def oH{vs:List Value}{i:Int}{j:Nat}{t:Tok}{x:Value}{Q:Value->Shared->Prop}(hl:s.heap.IsList l vs.toArray)
 (hx:vs[j]? =some x)(hi:i=(j:Int)\/i=(j:Int) - vs.length)(hj:j<2^40)(hz:vs.length<2^40)(h:Q x s):wpAny (M G) A (getItem (.ref l) (.int i t)) Q E s:=by
 have cB:=(SF.mp hx).1;rcases hi with rfl|rfl
 .exact wpAny_getItem_list hl (TY _) ((A1 [.l Va o9] (.L bA yP)) hj) (by simpa using hx) h
 refine wpAny_getItem_list_neg hl ((A2 [.l Va Vb] (.L pR K0)) cB) (by simp only[Ud];exact(A2 [] (.E pP (.s ew bA)))) ((A2 [.l Va o9] (.E (.g yP) (.s ew bA))) hz) ?_ h;have:((j:Int) - vs.length+(vs.toArray.size:Int)).toNat=j:=by simp only[Ud];exact(A3 [.i (.E K0 (.a pR ew)) (.Q (.o Vc) (.a pR ew))] (.q Vc Va)) TJ
 rw[this];simpa using hx
def Bo{vs:List Value}{i:Int}{j:Nat}{t:Tok}{x:Value}{Q:Value->Shared->Prop}(hl:IsTup s.heap l vs.toArray)
 (hx:vs[j]? =some x)(hi:i=(j:Int)\/i=(j:Int) - vs.length)(hj:j<2^40)(hz:vs.length<2^40)(h:Q x s):wpAny (M G) A (getItem (.ref l) (.int i t)) Q E s:=by
 have cB:=(SF.mp hx).1;refine getItem_tuple (j:=j) hl ((ar 2 3 [_,_] [_] [.o (.Q Qa bA) (.Q Qa pR),.l Vb o9] (.E (.g yP) Qa)) hi hz) ((ar 2 3 [_,_] [_] [.o (.Q Qa bA) (.Q Qa pR),.l Va o9] (.L Qa yP)) hi hj) ?_ (by simpa using hx) h;unfold seqIndex?;rw[Ud];rcases hi with rfl|rfl
 .have h1:¬((j:Int)<0):=by exact not_ofNat_neg j
  simp only[h1,V6];rw[if_pos (by simp;exact Us cB)];simp
 have h1:((j:Int) - vs.length<0):=by exact(A2 [.l Va Vb] (.L pR K0)) cB
 simp only[h1,V8];rw[if_pos (by simp;exact Us cB)];congr 1;exact(A3 [.i (.E K0 (.a pR ew)) (.Q (.o Vc) (.a pR ew))] (.q Vc Va)) TJ
noncomputable abbrev k6(slice:Expr):Prop:=∀o i,∃ops,subscripted slice false o i=operate ops (getItem o i)
def Ev.zw{d:D}(a:Ev G F n ρ k value (.list ds))(b:Ev G F n ρ k slice (.int i))(h:At ds i d)
 (hs:autoParam (k6 slice) tO):Ev G F n ρ k (.Subscript value slice pos) d:=λA s X R S=>
 Subscript_ (ay (a A s X R S) (λv aw h1 h2=>ay (b A aw X R (S.ext h1)) (λu au h3 h4=>by obtain⟨t,rfl⟩:=ak.mp h4;obtain⟨l,vs,rfl,hx,hl,hr⟩:=aA.mp (h3.rep h2);refine n8 h.ex λj g1 g2 g3 g4=>?_;refine ao (hr.get g1) λx e1 e2=>?_;refine aO (hs (.ref l) (.int i t)) λops ho=>?_;exact fD hl.isList.typeIs slot_list_getitem.lookup (oH hl.isList e1 (by rw[hr.length];exact g2) g3 (by rw[hr.length];exact g4) ⟨h1.trans h3,e2⟩) ho)))
def Ev.Es{d:D}(a:Ev G F n ρ k value (.tup ds))(b:Ev G F n ρ k slice (.int i))(h:At ds i d)
 (hs:autoParam (k6 slice) tO):Ev G F n ρ k (.Subscript value slice pos) d:=λA s X R S=>
 Subscript_ (ay (a A s X R S) (λv aw h1 h2=>ay (b A aw X R (S.ext h1)) (λu au h3 h4=>by obtain⟨t,rfl⟩:=ak.mp h4;obtain⟨l,vs,rfl,hx,hl,hr⟩:=aQ.mp (h3.rep h2);refine n8 h.ex λj g1 g2 g3 g4=>?_;refine ao (hr.get g1) λx e1 e2=>?_;refine aO (hs (.ref l) (.int i t)) λops ho=>?_;exact fD (T:="tuple") (bq hl λo ho hc _=>⟨o,ho,hc⟩) slot_tuple_getitem.lookup (Bo hl e1 (by rw[hr.length];exact g2) g3 (by rw[hr.length];exact g4) ⟨h1.trans h3,e2⟩) ho)))
def Ev.Kg{l:Addr}{ds:List D}{i:Int}{d:D}(m:Nat)(hi:F.vars[m]? =some x)(hm:ρ[m]? =some (Slot.own l (.list ds)))(b:Ev G F n ρ true slice (.int i))(h:At ds i d)
 (hd:autoParam ((x==("__debug__":Str))=false) tD)(hn:autoParam ((x==("__classdict__":Str))=false) tD)(eH:autoParam ((x==accN)=false) tD)
 (hs:autoParam (k6 slice) tO):Ev G F n ρ k (.Subscript (.Name x p) slice pos) d:=Ev.lk λA s X R S=>
 Subscript_ (by refine ei (S.slots m _ _ hi hm) λhv _ hx _ vs hl hr=>?_;replace hv:=hv.resolve_left (fP eH);refine VY (dy S.ok hv ?_ hn) hd;exact ay (b A s X R S) (λu au h3 h4=>by obtain⟨t,rfl⟩:=ak.mp h4;refine n8 h.ex λj g1 g2 g3 g4=>?_;refine ao (hr.get g1) λx e1 e2=>?_;refine aO (hs (.ref l) (.int i t)) λops ho=>?_;have lR:=(List.b4 hl (h3.keep _)).isList;exact fD lR.typeIs slot_list_getitem.lookup (oH lR e1 (by rw[hr.length];exact g2) g3 (by rw[hr.length];exact g4) ⟨h3,h3.rep e2⟩) ho))
def Bp{j c:Nat}
 (hx:x.cps[j]? =some c)(hi:i=(j:Int)\/i=(j:Int) - x.length)(hj:j<2^40)(hz:x.length<2^40)(h:Q (.str ⟨#[c]⟩ s.toks) {s with toks:=s.toks+1}):wpAny (M G) A (getItem (.str x t) (.int i u)) Q E s:=by
 have cB:j<x.length:=(SA.mp hx).1;refine P.getItem_str ?_ ?_ h
 .simp;exact(ar 2 3 [_,_] [_] [.o (.Q Qa bA) (.Q Qa pR),.l Vb o9,.l Va Vb] LI) hi hz cB
 unfold seqIndex?;rcases hi with rfl|rfl
 .have h1:¬((j:Int)<0):=by exact not_ofNat_neg j
  simp only[h1,V6];rw[if_pos (by simp;exact Us cB)];simpa using hx
 have h1:((j:Int) - x.length<0):=by exact(A2 [.l Va Vb] (.L pR K0)) cB
 simp only[h1,V8];rw[if_pos (by simp;exact Us cB)];have:((j:Int) - x.length+x.length).toNat=j:=by exact(A3 [.i (.E K0 (.a pR ew)) (.Q (.o Vc) (.a pR ew))] (.q Vc Va)) TJ
 rw[this];simpa using hx
def Ev.mK{c:Nat}(a:Ev G F n ρ true value (.str x))(b:Ev G F n ρ true slice (.int i))(h:At x.cps.toList i c)
 (hs:autoParam (k6 slice) tO):Ev G F n ρ k (.Subscript value slice pos) (.str ⟨#[c]⟩):=Ev.atom λA s X R S=>
 Subscript_ (ay (a A s X R S) (λv aw h1 h2=>ay (b A aw X R (S.ext h1)) (λu au h3 h4=>by
  obtain⟨t,rfl⟩:=ak.mp h4;obtain⟨t',rfl⟩:=aM.mp h2;refine n8 h.ex λj g1 g2 g3 g4=>?_;refine aO (hs (.str x t') (.int i t)) λops ho=>?_;have hz:x.length=x.cps.toList.length:=by simp[Str.length]
  exact fD (typeIs_str _ _ _) PySem.F.slot_str_getitem.lookup (Bp (j:=j) (by simpa using g1) (by rw[hz];exact g2) g3 (by rw[hz];exact g4) ⟨(h1.trans h3).trans .toks,gH⟩) ho)))
inductive ma:D->Option Int->Prop where
 |nil:ma .none .none
 |num (i:Int):ma (.int i) (some i)
def ma.val(p:ma d o)(r:Rep G h X d v):∃q:Option (Int×Tok),q.map (·.1)=o/\v=partValue q/\IsPart v o:=by
 cases p with
 |nil=>obtain rfl:=lM.mp r;exact dG Option.none rfl rfl .none
 |num i=>obtain⟨t,rfl⟩:=ak.mp r;exact⟨some (i,t),rfl,rfl,.int i t⟩
noncomputable def nG(G:Gd)(F:Fx)(n:Nat)(ρ:RE)(e:Option Expr)(o:Option Int):Prop:=
 match e with
 |none=>o=none
 |some e=>∃d,ma d o/\Ev G F n ρ true e d
def nG.nil:nG G F n ρ none none:=rfl
def nG.num(h:Ev G F n ρ true e (.int i)):nG G F n ρ (some e) (some i):=⟨_,.num i,h⟩
def nG.part(p:ma d o)(h:Ev G F n ρ true e d):nG G F n ρ (some e) o:=⟨_,p,h⟩
def nG.go(x:nG G F n ρ e o)(R:ec A n)(S:St G F X ρ s.heap):
 wpAny (M G) A (evalPart e F.env) (λv s'=>Ext G s s'/\∃q:Option (Int×Tok),q.map (·.1)=o/\v=partValue q/\IsPart v o) ff s:=by
 induction e using Option.casesOn with
 |none=>cases x;exact VV ⟨.refl _,Option.none,rfl,rfl,.none⟩
 |some e=>refine ao x λd p h=>?_;exact ay (h A s X R S) (λv s' h1 h2=>⟨h1,p.val h2⟩)
noncomputable def PS(G:Gd)(n:Nat)(d:D)(lo hi:Option Int)(r:D):Prop:=
 ∀(A:Around) (s:Shared) (X:XS) (v:Value) (sl:Addr) (ql qu:Option (Int×Tok)),ec A n->Gs G X s.heap->Rep G s.heap X d v->ql.map (·.1)=lo->qu.map (·.1)=hi->
  s.heap.IsSliceOf sl (partValue ql) (partValue qu) .none->IsPart (partValue ql) lo->IsPart (partValue qu) hi->
  (∃T id,s.TypeIs v T/\typeLookup (.type T) "__getitem__"=pure (some (.builtin id)))/\wpAny (M G) A (getItem v (.ref sl)) (λu s'=>Ext G s s'/\Rep G s'.heap X r u) ff s
def Ev.slice{lo hi:Option Expr}(a:Ev G F n ρ k value d)(b:nG G F n ρ lo l)(c:nG G F n ρ hi u)(h:PS G n d l u r):
 Ev G F n ρ k (.Subscript value (.Slice lo hi none p) pos) r:=λA s X R S=>
 Subscript_ (ay (a A s X R S) (λv aw h1 h2=>wpAny_Slice (VW (b.go R (S.ext h1)) (λvl au ⟨h3,ql,e1,e2,e3⟩=>VW (c.go R ((S.ext h1).ext h3)) (λvu d7 ⟨h4,qu,f1,f2,f3⟩=>VV (by subst e2 f2;have h5:Ext G d7 {d7 with heap:=d7.heap.push {cls:=.type "slice",data:=.fields #[partValue ql,partValue qu,.none]}}:=.push;have xn:Rep G (d7.heap.push {cls:=.type "slice",data:=.fields #[partValue ql,partValue qu,.none]}) (F.lk k X) d v:=h5.rep (h4.rep (h3.rep h2));have S4:=(((S.ext h1).ext h3).ext h4).ext h5;(refine cu (h A {d7 with heap:=d7.heap.push {cls:=.type "slice",data:=.fields #[partValue ql,partValue qu,.none]}} _ v d7.heap.objs.size ql qu R S4.ph xn e1 f1 (Heap.IsSliceOf.new ..) e3 f3) λaB hg=>?_;refine d4 aB λT id hT hl=>?_);exact fD hT hl (VW hg (λz df Nb=>cu Nb λh6 h7=>⟨(((h1.trans h3).trans h4).trans h5).trans h6,h7⟩) λ_ _ f=>f) rfl)) λ_ _ f=>f) λ_ _ f=>f)))
def aK.cut(lo hi:Option Int)(r:aK G h X ds vs):aK G h X (cut ds lo hi) (cut vs lo hi):=by unfold Mine.cut;rw[r.length];exact(r.drop _).take _
def pG(vs:List Value)(lo hi:Option Int):slicePick vs.toArray lo hi none=(cut vs lo hi).toArray:=by rw[slicePick_plain];rfl
def C6{lo hi:Option Int}(hz:ds.length<=sizeLine):PS G n (.list ds) lo hi (.list (cut ds lo hi)):=λA s X v sl ql qu R S r e f hs pl pu=>by obtain⟨l,vs,rfl,hx,hl,hr⟩:=aA.mp r;refine⟨⟨"list",_,hl.isList.typeIs,slot_list_getitem.lookup⟩,wpAny_getItem_list_slice hl.isList hs pl pu .none (by decide) ?_ (by rw[Ud,hr.length];exact hz)⟩;rw[pG];exact⟨.push,aA.mpr ⟨_,_,rfl,S.fresh,dU,Ext.push.pk (hr.cut lo hi)⟩⟩
def BF(x:Str)(lo hi:Option Int):(jV x lo hi).length<=x.length:=by rw[<-oN];exact Txt.slice_le x lo hi
def n5{lo hi:Option Int}(hz:x.length<=sizeLine):PS G n (.str x) lo hi (.str (jV x lo hi)):=λA s X v sl ql qu R S r e f hs pl pu=>by
 obtain⟨t,rfl⟩:=aM.mp r;refine⟨⟨"str",_,typeIs_str _ _ _,PySem.F.slot_str_getitem.lookup⟩,?_⟩;refine bq hs λo ho hc hd=>?_;refine wpAny_getItem_str_slice (l:=ql) (u:=qu) (st:=none) ⟨o,ho,hc,hd⟩ rfl (post_val_or_str ?_);have e2:∀c,(if((((none:Option (Int×Tok)).map (·.1)).getD 1==1&&(slicePicked x ql qu none).length==x.length)=true)then x else⟨((slicePicked x ql qu none).filterMap (x.cps[·]?)).toArray⟩)=c->c=jV x lo hi:=by intro c hc;rw[<-hc,<-oN,<-e,<-f];rfl
 refine⟨?_,λt' kk=>⟨.toks,?_⟩⟩
 .rw[e2 _ rfl];exact Vz (BF x lo hi) hz
 rw[e2 _ rfl];exact gH
end
noncomputable def look{κ α:Type}[DecidableEq κ](aH:List (κ×α))(k:κ):Option α:=(aH.find? λkv=>kv.1=k).map (·.2)
section
variable{G:Gd}{F:Fx}{n:Nat}{ρ:RE}{k:Bool}
def cT.look:∀{aH:List (Int×D)} {vs:List (Int×Value)} (i:Int),cT G h X aH vs->
 (∀d,Mine.look aH i=some d->∃v,valueAt vs i=some v/\Rep G h X d v)/\(Mine.look aH i=none->valueAt vs i=none):=by
 intro l';induction l' with
 |nil=>exact @λ_ i r=>by rw[eX.mp r];exact⟨λd e=>by trivial,λ_=>rfl⟩
 |cons y' ds aU=>
  obtain⟨j,d⟩:=y';exact @λ_ i r=>by
   obtain⟨v,u,rfl,hv,hu⟩:=cL.mp r;by_cases hj:j=i
   .subst hj;refine⟨λd' e=>⟨v,by simp[valueAt],?_⟩,λe=>by simp[Mine.look]at e⟩;simp[Mine.look]at e;subst e;exact hv
   have ih:=aU i hu;have e1:Mine.look ((j,d)::ds) i=Mine.look ds i:=by simp[Mine.look,hj]
   have e2:valueAt ((j,v)::u) i=valueAt u i:=by simp[valueAt,hj]
   (refine Eq.substr e1 ?_;refine Eq.substr e2 ?_);exact ih
def dN.look:∀{aH:List (Str×D)} {vs:List (Str×Value)} (i:Str),dN G h X aH vs->
 (∀d,Mine.look aH i=some d->∃v,valueAt vs i=some v/\Rep G h X d v)/\(Mine.look aH i=none->valueAt vs i=none):=by
 intro l';induction l' with
 |nil=>exact @λ_ i r=>by rw[dZ.mp r];exact⟨λd e=>by trivial,λ_=>rfl⟩
 |cons y' ds aU=>
  obtain⟨j,d⟩:=y';exact @λ_ i r=>by
   obtain⟨v,u,rfl,hv,hu⟩:=dc.mp r;by_cases hj:j=i
   .subst hj;refine⟨λd' e=>⟨v,by simp[valueAt],?_⟩,λe=>by simp[Mine.look]at e⟩;simp[Mine.look]at e;subst e;exact hv
   have ih:=aU i hu;have e1:Mine.look ((j,d)::ds) i=Mine.look ds i:=by simp[Mine.look,hj]
   have e2:valueAt ((j,v)::u) i=valueAt u i:=by simp[valueAt,hj]
   (refine Eq.substr e1 ?_;refine Eq.substr e2 ?_);exact ih
def Ev.Kh{value slice:Expr}(a:Ev G F n ρ k value (.aG aH))(b:Ev G F n ρ true slice (.int i))(h:look aH i=some d)
 (hs:autoParam (k6 slice) tO):Ev G F n ρ k (.Subscript value slice pos) d:=λA s X R S=>
 Subscript_ (ay (a A s X R S) (λv aw h1 h2=>ay (b A aw X R (S.ext h1)) (λu au h3 h4=>by obtain⟨t,rfl⟩:=ak.mp h4;obtain⟨l,vs,rfl,hx,lo,hl,hr⟩:=cj.mp (h3.rep h2);refine ao ((hr.look i).1 d h) λv e1 e2=>?_;refine aO (hs (.ref l) (.int i t)) λops ho=>?_;exact fD hl.typeIs slot_dict_getitem.lookup (wpAny_getItem_of (intKind_is _ _ i t) hl.mapOf e1 ⟨(h1.trans h3).trans .toks,e2⟩) ho)))
def Ev.GZ{slice:Expr}(m:Nat)(hi:F.vars[m]? =some x)(hm:ρ[m]? =some (Slot.own l (.aG aH)))(b:Ev G F n ρ true slice (.int i))(h:look aH i=some d)
 (hd:autoParam ((x==("__debug__":Str))=false) tD)(hn:autoParam ((x==("__classdict__":Str))=false) tD)(eH:autoParam ((x==accN)=false) tD)
 (hs:autoParam (k6 slice) tO):Ev G F n ρ k (.Subscript (.Name x p) slice pos) d:=Ev.lk λA s X R S=>
 Subscript_ (by refine gf (S.slots m _ _ hi hm) λhv _ hx _ h0 vs hl hr=>?_;replace hv:=hv.resolve_left (fP eH);refine VY (dy S.ok hv ?_ hn) hd;exact ay (b A s X R S) (λu au h3 h4=>by obtain⟨t,rfl⟩:=ak.mp h4;refine ao ((hr.look i).1 d h) λv e1 e2=>?_;refine aO (hs (.ref l) (.int i t)) λops ho=>?_;have lR:=Dict.b4 hl (h3.keep _);exact fD lR.typeIs slot_dict_getitem.lookup (wpAny_getItem_of (intKind_is _ _ i t) lR.mapOf e1 ⟨h3.trans .toks,h3.rep e2⟩) ho))
def Ev.GY{value slice:Expr}(a:Ev G F n ρ k value (.cF aH))(b:Ev G F n ρ true slice (.str i))(h:look aH i=some d)
 (hs:autoParam (k6 slice) tO):Ev G F n ρ k (.Subscript value slice pos) d:=λA s X R S=>
 Subscript_ (ay (a A s X R S) (λv aw h1 h2=>ay (b A aw X R (S.ext h1)) (λu au h3 h4=>by obtain⟨t,rfl⟩:=aM.mp h4;obtain⟨l,vs,rfl,hx,lo,hl,hr⟩:=dC.mp (h3.rep h2);refine ao ((hr.look i).1 d h) λv e1 e2=>?_;refine aO (hs (.ref l) (.str i t)) λops ho=>?_;exact fD hl.typeIs slot_dict_getitem.lookup (wpAny_getItem_of (strKind_is _ _ i t) hl.mapOf e1 ⟨(h1.trans h3).trans .toks,e2⟩) ho)))
def J5:P2 G n (.int x) (.aG aH) (compareOp .In) (.bool (look aH x).isSome):=λA s X fK ey R S dK dJ=>by
 obtain⟨t,rfl⟩:=ak.mp dK;obtain⟨l,vs,rfl,hx,lo,hl,hr⟩:=cj.mp dJ;refine wpAny_in_of (intKind_is _ _ x t) lo hl.mapOf ⟨.toks,?_⟩;have e:(valueAt vs x).isSome=(look aH x).isSome:=by
  induction h:look aH x using Option.casesOn with
  |none=>rw[(hr.look x).2 h];rfl
  |some d=>refine ao ((hr.look x).1 d h) λv e1 _=>?_;rw[e1];rfl
 rw[e];exact dB
end
def kq{h:Heap}{a c:Addr}(x:h.Ns a m)(y:h.IsCell c v):c≠a:=λe=>by subst e;refine fq x λo es ep ho hd _=>?_;refine ao y λo' iu BY=>?_;rw[ho]at iu;obtain rfl:=Option.some.inj iu;rw[hd]at BY;cases BY
def jA(x:bt G h X a d)(y:h.IsCell c v):c≠a:=λe=>by
 subst e;refine ao y λo' iu BY=>?_;induction d using D.casesOn with
 |list ds=>(refine ao x λvs aB _=>?_;refine aO aB λn ho=>?_);rw[ho]at iu;obtain rfl:=Option.some.inj iu;cases BY
 |aG ds=>(refine mH x λ_ vs aB _=>?_;refine cQ aB λo es ep ho _ hd _=>?_);rw[ho]at iu;obtain rfl:=Option.some.inj iu;rw[hd]at BY;cases BY
 |cF ds=>(refine mH x λ_ vs aB _=>?_;refine cQ aB λo es ep ho _ hd _=>?_);rw[ho]at iu;obtain rfl:=Option.some.inj iu;rw[hd]at BY;cases BY
 |_=>exact x.elim
noncomputable def Wr(F:Fx)(ρ:RE):XS:=λa=>a=F.env.locals\/(F.env.locals<a/\∃x,F.env.cells.lookup x=some a)\/∃(i:Nat) (d:D),ρ[i]? =some (.own a d)
def St.mz(S:St G F X ρ h):∀a,Wr F ρ a->X a:=λa x=>by
 rcases x with rfl|⟨_,y,e⟩|⟨i,d,e⟩
 .exact S.xL
 .exact(S.cells y a e).1
 have hi:i<ρ.length:=(SF.mp e).1;have hv:i<F.vars.length:=S.len▸hi;obtain⟨y,hy⟩:∃y,F.vars[i]? =some y:=⟨F.vars[i],by exact(SK (by omega))⟩;exact(S.slots i y _ hy e).2.1
structure gF(G:Gd)(F:Fx)(X X':XS)(ρ az:RE)(s s':Shared):Prop where
 keep:∀b o,nv o->¬Wr F ρ b->s.heap.get? b=some o->s'.heap.get? b=some o
 there:∀b o,s.heap.get? b=some o->∃o',s'.heap.get? b=some o'
 tb:Tb G s.heap->Tb G s'.heap
 wr:∀a,Wr F az a->Wr F ρ a\/s.heap.get? a=none
 newX:∀a,X' a->X a\/s.heap.get? a=none
 up:∀a,X a->X' a\/Wr F ρ a
 os:s'.os=s.os
 gens:AllBare s.gens->AllBare s'.gens
def gF.refl:gF G F X X ρ ρ s s:=⟨λ_ _ _ _ e=>e,λb o e=>⟨o,e⟩,id,λ_ x=>.inl x,λ_ x=>.inl x,λ_ x=>.inl x,rfl,id⟩
def gF.trans(S:St G F X ρ s.heap)(x:gF G F X X' ρ az s s')(y:gF G F X' lU az kG s' BN):gF G F X lU ρ kG s BN:=by
 have ex:∀a,s'.heap.get? a=none->Wr F ρ a\/s.heap.get? a=none:=λa e=>by
  induction h:s.heap.get? a using Option.casesOn with
  |none=>exact .inr rfl
  |some o=>refine aO (x.there a o h) λo' e'=>?_;rw[e]at e';exact cG e'
 have hw:=S.mz;refine⟨λb o n hb e=>?_,λb o e=>aO (x.there b o e) λo' e'=>y.there b o' e',λT=>y.tb (x.tb T),λa ha=>?_,λa ha=>?_,λa ha=>?_,y.os.trans x.os,λg=>y.gens (x.gens g)⟩
 .refine y.keep b o n (λHO=>?_) (x.keep b o n hb e);rcases x.wr b HO with h|h
  .exact hb h
  rw[e]at h;exact yq h
 .rcases y.wr a ha with h|h
  .exact x.wr a h
  exact ex a h
 .rcases y.newX a ha with h|h
  .exact x.newX a h
  rcases ex a h with h|h
  .exact .inl (hw a h)
  exact .inr h
 rcases x.up a ha with h|h
 .rcases y.up a h with h|h
  .exact .inl h
  rcases x.wr a h with h|h
  .exact .inr h
  refine aO (S.gs.live a ha) λo e=>?_;rw[h]at e;exact cG e
 exact .inr h
def gF.ok(hw:∀a,Wr F ρ a->X a)(x:gF G F X X' ρ az s s'):Ok X s.heap X' s'.heap:=λb o n e hb=>
 ⟨x.keep b o n (λh=>hb (hw b h)) e,λHO=>by
  rcases x.newX b HO with h|h
  .exact hb h
  .rw[e]at h;exact yq h⟩
def gF.c8(e:Ext G s s'):gF G F X X ρ ρ s s':=⟨λb o n _ h=>e.keep b o n h,e.there,e.tb,λ_ x=>.inl x,λ_ x=>.inl x,λ_ x=>.inl x,e.os,e.gens⟩
section
variable{G:Gd}{F:Fx}{n:Nat}{ρ:RE}{X:XS}
structure d6(F:Fx)(i:Nat)(x:Str):Prop where
 at_:F.vars[i]? =some x
 one:∀j,j≠i->F.vars[j]?≠some x
 kind:F.env.kindOf x=some .local\/(F.env.kindOf x=some .cell/\∃c,F.env.cells.lookup x=some c/\F.env.locals<c)
def St.upd(S:St G F X ρ h)(hb:X b)(hs:Heap.SameBut b h h')(hl:∃o,h'.get? b=some o)(D0:∃m,h'.Ns F.env.locals m)
 (hc:∀x c,F.env.cells.lookup x=some c->∃ov,h'.IsCell c ov)(hlen:az.length=F.vars.length)
 (uk:∀(i j:Nat) (a:Addr) (d d':D),az[i]? =some (.own a d)->az[j]? =some (.own a d')->i=j)
 (sl:∀(i:Nat) (x:Str) (sl:Slot),F.vars[i]? =some x->az[i]? =some sl->l9 G F h' X x sl):St G F X az h' where
 ok:=S.ok
 gs:=⟨S.gs.tb.sameBut hs (S.gs.new _ hb),λa xa=>by
  by_cases nD:a=b
  ·(replace nD:=V7 nD;subst nD);exact hl
  .refine aO (S.gs.live a xa) λo e=>?_;exact⟨o,(hs.2 a nD).trans e⟩,S.gs.new⟩
 sub:=S.sub
 xL:=S.xL
 ns:=D0
 cells:=λx c e=>⟨(S.cells x c e).1,hc x c e⟩
 len:=hlen
 uk:=uk
 slots:=sl
def b0(hb:X b)(hs:Heap.SameBut b h h'):Ok X h X h':=λc o _ e hc=>⟨(hs.2 c (λq=>hc (q▸hb))).trans e,hc⟩
structure Kp(G:Gd)(F:Fx)(ρ:RE)(h h':Heap):Prop where
 keep:∀b o,¬Wr F ρ b->h.get? b=some o->h'.get? b=some o
 there:∀b o,h.get? b=some o->∃o',h'.get? b=some o'
 tb:Tb G h->Tb G h'
def eW(S:St G F X ρ s.heap)(k:d6 F i x)
 (h:∀(h':Heap) (tk:Nat),St G F X (ρ.set i .no) h'->Holds F.env h' x (some v)->Kp G F ρ s.heap h'->Q () {s with heap:=h',toks:=tk}):
 wpAny (M G) A (storeName F.env x v) Q E s:=by
 refine aO S.ns λm hm=>?_;have Cb:∀(j:Nat) (sl:Slot),(ρ.set i .no)[j]? =some sl->sl=.no\/(j≠i/\ρ[j]? =some sl):=λj sl e=>by
  by_cases hj:j=i
  ·(replace hj:=V7 hj;subst hj)
   rw[Uk]at e;simp only[V8]at e;split at e
   .obtain rfl:=Option.some.inj e;exact .inl rfl
   exact cG e
  rw[Tq (λq=>hj q.symm)]at e;exact .inr ⟨hj,e⟩
 have Ju:∀(i' j:Nat) (a:Addr) (d d':D),(ρ.set i .no)[i']? =some (.own a d)->(ρ.set i .no)[j]? =some (.own a d')->i'=j:=λi' j a d d' h1 h2=>by
  rcases Cb i' _ h1 with q|⟨_,q1⟩
  ·(exfalso;cases q)
  rcases Cb j _ h2 with q|⟨_,q2⟩
  ·(exfalso;cases q)
  exact S.uk i' j a d d' q1 q2
 rcases k.kind with kl|⟨kc,ks⟩
 .refine wpAny_storeName_local kl hm (λh' hn hs=>?_) (by rw[S.ok.kind];rfl);refine h h' _ ?_ (.inl ⟨kl,_,hn,by simp⟩) ⟨λb o hb e=>(hs.2 b (λq=>hb (.inl q))).trans e,λb o e=>(by
   by_cases q:b=F.env.locals
   .subst q;refine eR hn λo _ _ e _=>?_;exact⟨o,e⟩
   .exact⟨o,(hs.2 b q).trans e⟩),λT=>T.sameBut hs (S.gs.new _ S.xL)⟩
  refine S.upd S.xL hs (eR hn λo _ _ e _=>⟨o,e⟩) ⟨_,hn⟩ (λy c e=>?_) (by rw[length_set];exact S.len) Ju (λj y sl h1 h2=>?_)
  .refine uA (S.cells y c e) λ_ ov hc=>?_;exact⟨ov,hc.sameBut hs (kq hm hc)⟩
  rcases Cb j sl h2 with rfl|⟨hj,h3⟩
  .trivial
  have hy:y≠x:=λq=>k.one j hj (q▸h1);have hold:∀ov,Holds F.env s.heap y ov->Holds F.env h' y ov:=λov z=>by
   rcases z with⟨z1,m',z2,z3⟩|⟨z1,c,z2,z3⟩
   .refine .inl ⟨z1,_,hn,?_⟩;simp only[hy,V6];refine cQ hm λo es ep g1 g2 _ g3=>?_;refine cQ z2 λo' Sf Si O8 MP _ Rl=>?_;rw[g1]at O8;obtain rfl:=Option.some.inj O8;rw[g2]at MP;cases MP;rw[<-g3,Rl,z3]
   exact .inr ⟨z1,c,z2,z3.sameBut hs (kq hm z3)⟩
  have sk:=S.slots j y sl h1 h3;induction sl using Slot.casesOn with
  |no=>trivial
  |val d=>refine ao sk λu z1 z2=>?_;exact⟨u,hold _ z1,Rep.move (b0 S.xL hs) _ _ z2⟩
  |own a d=>refine dk sk λz1 z2 z3 z4 z5=>?_;exact⟨z1.imp id (hold _),z2,z3,z4,z5.move (λo _ e=>(hs.2 a z4).trans e) (b0 S.xL hs)⟩
 refine ao ks λc hc Rb=>?_;refine uA (S.cells x c hc) λxc ov j0=>?_;have jc:c≠F.env.locals:=kq hm j0;refine wpAny_storeName_cell S.ok.kind kc hc j0 (λh' hn hs=>?_);refine h h' s.toks ?_ (.inr ⟨.inl kc,c,hc,hn⟩) ⟨λb o hb e=>(hs.2 b (λq=>hb (.inr (.inl (q▸⟨Rb,x,hc⟩))))).trans e,λb o e=>(by
  by_cases q:b=c
  ·(replace q:=V7 q;subst q);refine ao hn λo e _=>?_;exact⟨o,e⟩
  .exact⟨o,(hs.2 b q).trans e⟩),λT=>T.sameBut hs (S.gs.new _ xc)⟩
 refine S.upd xc hs (ao hn λo e _=>⟨o,e⟩) ⟨m,hm.sameBut hs (V9 jc)⟩ (λy c' e=>?_) (by rw[length_set];exact S.len) Ju (λj y sl h1 h2=>?_)
 .by_cases Fs:c'=c
  ·(replace Fs:=V7 Fs;subst Fs);exact⟨_,hn⟩
  refine uA (S.cells y c' e) λ_ PE Iy=>?_;exact⟨PE,Iy.sameBut hs Fs⟩
 rcases Cb j sl h2 with rfl|⟨hj,h3⟩
 .trivial
 have hy:y≠x:=λq=>k.one j hj (q▸h1);have hold:∀ov,Holds F.env s.heap y ov->Holds F.env h' y ov:=λov z=>by
  rcases z with⟨z1,m',z2,z3⟩|⟨z1,c',z2,z3⟩
  .exact .inl ⟨z1,m',z2.sameBut hs (V9 jc),z3⟩
  refine .inr ⟨z1,c',z2,z3.sameBut hs (λq=>?_)⟩
  (replace q:=V7 q;subst q)
  exact hy (name_of_addr S.ok.apart (mem_of_lookup z2) (mem_of_lookup hc))
 have sk:=S.slots j y sl h1 h3;induction sl using Slot.casesOn with
 |no=>trivial
 |val d=>refine ao sk λu z1 z2=>?_;exact⟨u,hold _ z1,Rep.move (b0 xc hs) _ _ z2⟩
 |own a d=>refine dk sk λz1 z2 z3 z4 z5=>?_;exact⟨z1.imp id (hold _),z2,z3,z4,z5.move (λo _ e=>(hs.2 a (λq=>jA z5 j0 q.symm)).trans e) (b0 xc hs)⟩
def St.put(S:St G F X (ρ.set i .no) h)(k:d6 F i x)(HH:l9 G F h X x sl)(hd:∀(a:Addr) (d:D),sl=.own a d->∀(j:Nat) (d':D),j≠i->ρ[j]?≠some (.own a d')):St G F X (ρ.set i sl) h:=by
 have key:∀(j:Nat) (s':Slot),(ρ.set i sl)[j]? =some s'->(j=i/\s'=sl)\/(j≠i/\ρ[j]? =some s'/\(ρ.set i .no)[j]? =some s'):=λj s' e=>by
  by_cases hj:j=i
  ·(replace hj:=V7 hj;subst hj)
   rw[Uk]at e;simp only[V8]at e;split at e
   .obtain rfl:=Option.some.inj e;exact .inl ⟨rfl,rfl⟩
   exact cG e
  rw[Tq (λq=>hj q.symm)]at e;exact .inr ⟨hj,e,by rw[Tq (λq=>hj q.symm)];exact e⟩
 refine⟨S.ok,S.gs,S.sub,S.xL,S.ns,S.cells,by have:=S.len;simpa using this,λi' j a d d' h1 h2=>?_,λj y s' h1 h2=>?_⟩
 .rcases key i' _ h1 with⟨e1,e2⟩|⟨e1,e2,e3⟩<;>rcases key j _ h2 with⟨f1,f2⟩|⟨f1,f2,f3⟩
  .simp only[e1,f1]
  .exact absurd f2 (hd a d e2.symm j d' f1)
  .exact absurd e2 (hd a d' f2.symm i' d e1)
  exact S.uk i' j a d d' e3 f3
 rcases key j _ h2 with⟨e1,e2⟩|⟨e1,e2,e3⟩
 .subst e1 e2;have:y=x:=by rw[k.at_]at h1;obtain rfl:=Option.some.inj h1;rfl
  subst this;exact HH
 exact S.slots j y s' h1 e3
def kf(hs:∀a d,sl≠ .own a d):∀a,Wr F (ρ.set i sl) a->Wr F ρ a:=λa x=>by
 rcases x with h|h|⟨j,d,h⟩
 .exact .inl h
 .exact .inr (.inl h)
 refine .inr (.inr ⟨j,d,?_⟩);by_cases hj:j=i
 .subst hj;rw[Uk]at h;simp only[V8]at h;split at h
  .obtain rfl:=Option.some.inj h;exact absurd rfl (hs a d)
  exact cG h
 rw[Tq (λq=>hj q.symm)]at h;exact h
end
inductive Fl where
 |next
 |ret (d:D)
noncomputable abbrev Ph:=Fl->RE->Prop
noncomputable def JK(G:Gd)(F:Fx)(h:Heap):Fl->Flow->Prop
 |.next,f=>f=.next
 |.ret d,f=>∃v,f=.ret v/\Rep G h F.aD d v
noncomputable def uH(G:Gd)(F:Fx)(ρ:RE)(X:XS)(s:Shared)(Φ:Ph)(f:Flow)(s':Shared):Prop:=
 ∃X' az fl,Φ fl az/\St G F X' az s'.heap/\gF G F X X' ρ az s s'/\JK G F s'.heap fl f
noncomputable def bQ(G:Gd)(F:Fx)(n:Nat)(ρ:RE)(st:Stmt)(Φ:Ph):Prop:=
 ∀(A:Around) (s:Shared) (X:XS),ec A n->St G F X ρ s.heap->wpAny (M G) A (exec st F.env) (uH G F ρ X s Φ) ff s
noncomputable def Ex(G:Gd)(F:Fx)(n:Nat)(ρ:RE)(ss:List Stmt)(Φ:Ph):Prop:=
 ∀(A:Around) (s:Shared) (X:XS),ec A n->St G F X ρ s.heap->wpAny (M G) A (execs ss F.env) (uH G F ρ X s Φ) ff s
noncomputable def As(G:Gd)(F:Fx)(n:Nat)(ρ:RE)(t:Expr)(d:D)(az:RE):Prop:=
 ∀(A:Around) (s:Shared) (X:XS) (v:Value),ec A n->St G F X ρ s.heap->Rep G s.heap X d v->wpAny (M G) A (assign t F.env v) (λ_ s'=>St G F X az s'.heap/\gF G F X X ρ az s s') ff s
noncomputable def uy(G:Gd)(F:Fx)(n:Nat)(ρ:RE)(ts:List Expr)(ds:List D)(az:RE):Prop:=
 ∀(A:Around) (s:Shared) (X:XS) (vs:List Value),ec A n->St G F X ρ s.heap->aK G s.heap X ds vs->wpAny (M G) A (assignInOrder ((assignEach ts F.env).map (·.2)) vs) (λ_ s'=>St G F X az s'.heap/\gF G F X X ρ az s s') ff s
section
variable{G:Gd}{F:Fx}{n:Nat}{ρ:RE}{X:XS}{Φ:Ph}
def uH.mono(h:∀fl az,Φ fl az->Ψ fl az)(p:uH G F ρ X s Φ f s'):uH G F ρ X s Ψ f s':=
 let⟨X',az,fl,a,b⟩:=p;⟨X',az,fl,h _ _ a,b⟩
def bQ.mono{st:Stmt}(x:bQ G F n ρ st Φ)(h:∀fl az,Φ fl az->Ψ fl az):bQ G F n ρ st Ψ:=λA s X R S=>VW (x A s X R S) (λ_ _ p=>p.mono h) λ_ _ f=>f
def Ex.mono(x:Ex G F n ρ ss Φ)(h:∀fl az,Φ fl az->Ψ fl az):Ex G F n ρ ss Ψ:=λA s X R S=>VW (x A s X R S) (λ_ _ p=>p.mono h) λ_ _ f=>f
def Ex.nil(h:Φ .next ρ):Ex G F n ρ [] Φ:=λA s X R S=>wpAny_execs_nil ⟨X,ρ,.next,h,S,.refl,rfl⟩
def Ex.cons{st:Stmt}(h:bQ G F n ρ st λfl az=>match fl with|.next=>Ex G F n az ss Φ|fl=>Φ fl az):Ex G F n ρ (st::ss) Φ:=λA s X R S=>
 wpAny_execs_cons (jt (h A s X R S) λf s' X' az fl a b c d=>by
  induction fl using Fl.casesOn with
  |next=>cases d;exact VW (a A s' X' R b) (λf BN yH=>cQ yH λlU kG fl e1 e2 e3 e4=>⟨lU,kG,fl,e1,e2,c.trans S e3,e4⟩) λ_ _ f=>f
  |ret d'=>(refine ao d λv aB hv=>?_;clear d;subst aB);exact⟨X',az,.ret d',a,b,c,v,rfl,hv⟩)
def As.name(i:Nat)(k:d6 F i x):As G F n ρ (.Name x p) d (ρ.set i (.val d)):=λA s X v R S r=>wpAny_assign_Name (eW S k λh' tk S' hh hk=>by have hr:Rep G h' X d v:=Rep.move (λb o _ e hb=>⟨hk.keep b o (λq=>hb (S.mz b q)) e,hb⟩) _ _ r;exact⟨S'.put k ⟨v,hh,hr⟩ (λa d e=>by(exfalso;cases e)),λb o _=>hk.keep b o,hk.there,hk.tb,λa x=>.inl (kf (λ_ _ e=>by cases e) a x),λ_ x=>.inl x,λ_ x=>.inl x,rfl,id⟩)
def uy.nil:uy G F n ρ [] [] ρ:=λA s X vs R S r=>by rw[aE.mp r];exact VV ⟨S,.refl⟩
def uy.cons(a:As G F n ρ t d eD)(b:uy G F n eD ts ds ck)
 (ht:autoParam (assignEach (t::ts) F.env=(false,assign t F.env)::assignEach ts F.env) tR):uy G F n ρ (t::ts) (d::ds) ck:=λA s X vs R S r=>by
 obtain⟨v,us,rfl,hv,hu⟩:=af.mp r;rw[ht];refine(?_:wpAny _ _ (do holding us (assign t F.env v);assignInOrder ((assignEach ts F.env).map (·.2)) us) _ _ s);refine VU (Vx (ay (a A s X v R S hv) (λ_ aw h1 h2=>?_)));exact ay (b A aw X us R h1 (aK.move (h2.ok S.mz) _ _ hu)) (λ_ au h3 h4=>⟨h3,h2.trans S h4⟩)
def kz(e:Heap.ExtBut s.heap.objs.size s.heap h'):Ext G s {s with heap:=h'}:=
 .full (λb o q=>e b o (VL (VD q)) q) rfl id
def As.tup(a:uy G F n ρ ts ds az)(hl:autoParam ((assignEach ts F.env).length=ds.length) tR)
 (hs:autoParam ((assignEach ts F.env).findIdx? (·.1)=none) tR):As G F n ρ (.Tuple ts j p) (.tup ds) az:=λA s X v R S r=>by
 obtain⟨l,vs,rfl,hx,ht,hr⟩:=aQ.mp r;refine wpAny_assign_Tuple R.handled ht (by simp only[hl,Ud,hr.length]) hs λh' e=>?_;have ex:=kz (G:=G) e;exact ay (a A {s with heap:=h'} X vs R (S.ext ex) (ex.pk hr)) (λ_ s' h1 h2=>⟨h1,(gF.c8 ex).trans S h2⟩)
def bQ.assign(i:Nat)(k:d6 F i x)(a:Ev G F n ρ false e d)(h:Φ .next (ρ.set i (.val d)))
 (hs:autoParam (swapsWith e (some (.Name x p)) pos.line F.env=pure false) tR):bQ G F n ρ (.Assign [.Name x p] e pos) Φ:=λA s X R S=>
 wpAny_Assign_Name (ay (a A s X R S) (λv aw h1 h2=>eW (S.ext h1) k λh' tk S' hh hk=>by have hr:Rep G h' X d v:=Rep.move (λb o _ e hb=>⟨hk.keep b o (λq=>hb (S.mz b q)) e,hb⟩) _ _ h2;exact⟨X,_,.next,h,S'.put k ⟨v,hh,hr⟩ (λa d e=>by(exfalso;cases e)),(gF.c8 h1).trans S ⟨λb o _=>hk.keep b o,hk.there,hk.tb,λa x=>.inl (kf (λ_ _ e=>by cases e) a x),λ_ x=>.inl x,λ_ x=>.inl x,rfl,id⟩,rfl⟩)) hs
def bQ.jM(a:Ev G F n ρ false e d)(b:As G F n ρ (.Tuple ts j tp) d az)(h:Φ .next az)
 (hs:autoParam (swapsWithSole [.Tuple ts j tp] e pos.line F.env=pure false) tR)
 (hw:autoParam (swappedStores [.Tuple ts j tp] e F.env=pure none) tR):bQ G F n ρ (.Assign [.Tuple ts j tp] e pos) Φ:=λA s X R S=>
 Assign_Tuple (ay (a A s X R S) (λv aw h1 h2=>ay (b A aw X v R (S.ext h1) h2) (λ_ au h3 h4=>⟨X,az,.next,h,h3,(gF.c8 h1).trans S h4,rfl⟩))) hs hw
def bQ.ny(ix iy:Nat)(kx:d6 F ix x)(ky:d6 F iy y)(a:b8 G F n ρ false [dE,cS] [bL,cN])
 (h:Φ .next ((ρ.set iy (.val cN)).set ix (.val bL)))
 (hs:autoParam (swapsWithSole [.Tuple [.Name x px,.Name y py] j tp] (.Tuple [dE,cS] j' ep) pos.line F.env=pure false) tR)
 (hw:autoParam (swappedStores [.Tuple [.Name x px,.Name y py] j tp] (.Tuple [dE,cS] j' ep) F.env=pure (some [x,y])) tR):
 bQ G F n ρ (.Assign [.Tuple [.Name x px,.Name y py] j tp] (.Tuple [dE,cS] j' ep) pos) Φ:=λA s X R S=>
 Assign_Tuple_swapped (ay (Ev.tup a (by show 2<=sizeLine;exact Tc rfl) A s X R S) (λv aw h1 h2=>by
  obtain⟨l,vs,rfl,hx,ht,hr⟩:=aQ.mp h2;have S1:=S.ext h1;have hz:[x,y].length=vs.toArray.size:=by simp only[Ud,hr.length];rfl
  rw[hz];refine wpAny_unpackItems_tuple R.handled ht λh' e=>?_;have ex:=kz (G:=G) e;have S2:St G F X ρ h':=S1.ext ex;have w7:=ex.pk hr;(refine bZ (af.mp w7) λu r aB hu yI=>?_;clear w7;subst aB);(refine bZ (af.mp yI) λu' r' aB pN Qx=>?_;clear yI;subst aB);obtain rfl:=aE.mp Qx;refine(?_:wpAny _ _ (do holding [u] (bindName F.env y u');(do holding [] (bindName F.env x u);assignInOrder [] [])) _ _ _);refine VU (Vx (wpAny_bindName (eW (s:={aw with heap:=h'}) S2 ky λh₂ tk S3 hh hk=>VU (Vx (wpAny_bindName ?_)))));have Qw:Rep G h₂ X cN u':=Rep.move (λb o _ e hb=>⟨hk.keep b o (λq=>hb (S2.mz b q)) e,hb⟩) _ _ pN;have Qv:Rep G h₂ X bL u:=Rep.move (λb o _ e hb=>⟨hk.keep b o (λq=>hb (S2.mz b q)) e,hb⟩) _ _ hu;have S4:St G F X (ρ.set iy (.val cN)) h₂:=S3.put ky ⟨u',hh,Qw⟩ (λa d e=>by(exfalso;cases e));have iX:gF G F X X ρ (ρ.set iy (.val cN)) s {aw with heap:=h₂,toks:=tk}:=((gF.c8 h1).trans S (gF.c8 ex)).trans S ⟨λb o _=>hk.keep b o,hk.there,hk.tb,λa x=>.inl (kf (λ_ _ e=>by cases e) a x),λ_ x=>.inl x,λ_ x=>.inl x,rfl,id⟩;refine eW (s:={aw with heap:=h₂,toks:=tk}) S4 kx λdM Pr S5 Iq e8=>VV ?_;have Qu:Rep G dM X bL u:=Rep.move (λb o _ e hb=>⟨e8.keep b o (λq=>hb (S4.mz b q)) e,hb⟩) _ _ Qv;exact⟨X,_,.next,h,S5.put kx ⟨u,Iq,Qu⟩ (λa d e=>by(exfalso;cases e)),iX.trans S ⟨λb o _=>e8.keep b o,e8.there,e8.tb,λa x=>.inl (kf (λ_ _ e=>by cases e) a x),λ_ x=>.inl x,λ_ x=>.inl x,rfl,id⟩,rfl⟩)) hs hw
def bQ.aug(i:Nat)(k:d6 F i x)(hm:ρ[i]? =some (.val bL))(a:Ev G F n ρ false e cN)(q:P2 G n bL cN (inplaceOp op) d)(h:Φ .next (ρ.set i (.val d)))
 (hn:autoParam ((x==("__classdict__":Str))=false) tD):bQ G F n ρ (.AugAssign (.Name x p) op e pos) Φ:=λA s X R S=>
 wpAny_AugAssign_Name (by refine ao (S.slots i _ _ k.at_ hm) λu hu hr=>?_;refine dy S.ok hu ?_ hn;refine ay (a A s X R S) (λv aw h1 h2=>?_);refine ay (q A aw X u v R (S.ext h1).gs (h1.rep hr) h2) (λz au h3 h4=>?_);have O7:=h1.trans h3;refine eW (S.ext O7) k λh' tk S' hh hk=>?_;have hr:Rep G h' X d z:=Rep.move (λb o _ e hb=>⟨hk.keep b o (λq=>hb (S.mz b q)) e,hb⟩) _ _ h4;exact⟨X,_,.next,h,S'.put k ⟨z,hh,hr⟩ (λa d e=>by(exfalso;cases e)),(gF.c8 O7).trans S ⟨λb o _=>hk.keep b o,hk.there,hk.tb,λa x=>.inl (kf (λ_ _ e=>by cases e) a x),λ_ x=>.inl x,λ_ x=>.inl x,rfl,id⟩,rfl⟩)
noncomputable def mB(G:Gd)(F:Fx)(n:Nat)(ρ:RE)(e:Expr)(d:D):Prop:=
 ∀(A:Around) (s:Shared) (X:XS),ec A n->St G F X ρ s.heap->wpAny (M G) A (eval e F.env) (λv s'=>Ext G s s'/\∃a,v=.ref a/\s.heap.get? a=none/\bt G s'.heap (λb=>X b\/b=a) a d) ff s
def bt.live(x:bt G h X a d):∃o,h.get? a=some o:=by
 induction d using D.casesOn with
 |list ds=>(refine ao x λvs aB _=>?_;clear x;refine aO aB λn ho=>?_;clear aB);exact⟨_,ho⟩
 |aG ds=>(refine mH x λ_ vs aB _=>?_;clear x;refine eR aB λo es ep ho _=>?_;clear aB);exact⟨_,ho⟩
 |cF ds=>(refine mH x λ_ vs aB _=>?_;clear x;refine eR aB λo es ep ho _=>?_;clear aB);exact⟨_,ho⟩
 |_=>exact x.elim
def mB.ev(x:mB G F n ρ e d):Ev G F n ρ k e d:=Ev.lk λA s X R S=>VW (x A s X R S) (λv s' ⟨h1,a,e,h2,h3⟩=>⟨h1,e▸h3.rep (λb q=>.inl q) λq=>by refine aO (S.gs.live a q) λo e=>?_;rw[h2]at e;exact cG e⟩) λ_ _ f=>f
def St.grow(S:St G F X ρ s.heap)(e:Ext G s s')(hn:s.heap.get? a=none)(hl:∃o,s'.heap.get? a=some o):St G F (λb=>X b\/b=a) ρ s'.heap:=by
 have S1:=S.ext e;have ok:Ok X s.heap (λb=>X b\/b=a) s'.heap:=λb o n q hb=>⟨e.keep b o n q,λx=>x.elim hb λy=>by rw[y,hn]at q;exact cG q⟩;refine⟨S1.ok,⟨S1.gs.tb,λb x=>x.elim (S1.gs.live b) λy=>y▸hl,λb x=>x.elim (S1.gs.new b) λy=>?_⟩,λb x=>.inl (S1.sub b x),.inl S1.xL,S1.ns,λx c q=>⟨.inl (S1.cells x c q).1,(S1.cells x c q).2⟩,S1.len,S1.uk,λi x sl h1 h2=>?_⟩
 ·(replace y:=V7 y;subst y)
  exact S.gs.tb.none hn
 have sk:=S.slots i x sl h1 h2;induction sl using Slot.casesOn with
 |no=>trivial
 |val d=>refine ao sk λv z1 z2=>?_;clear sk;exact⟨v,z1.keeps e.keep,Rep.move ok _ _ z2⟩
 |own c d=>refine dk sk λz1 z2 z3 z4 z5=>?_;clear sk;exact⟨z1.imp id λz=>z.keeps e.keep,.inl z2,z3,z4,z5.move (λo n q=>e.keep _ _ n q) ok⟩
def bQ.fw(i:Nat)(k:d6 F i x)(a:mB G F n ρ e d)(h:∀l,Φ .next (ρ.set i (.own l d)))(hi:autoParam (i<ρ.length) tD)
 (hs:autoParam (swapsWith e (some (.Name x p)) pos.line F.env=pure false) tR):bQ G F n ρ (.Assign [.Name x p] e pos) Φ:=λA s X R S=>
 wpAny_Assign_Name (VW (a A s X R S) (λv aw ⟨h1,l,e,hn,ho⟩=>by
  subst e;have S1:=S.grow h1 hn ho.live;have hX:∀b,X b->b≠l:=λb xb q=>by refine aO (S.gs.live b xb) λo e=>?_;rw[q,hn]at e;exact cG e
  refine eW S1 k λh' tk S' hh hk=>?_;have D1:¬Wr F ρ l:=λq=>hX l (S.mz l q) rfl;have yK:Ok (λb=>X b\/b=l) aw.heap (λb=>X b\/b=l) h':=λb o _ e hb=>⟨hk.keep b o (λq=>hb (.inl (S.mz b q))) e,hb⟩;have iu:bt G h' (λb=>X b\/b=l) l d:=ho.move (λo _ e=>hk.keep l o D1 e) yK;refine⟨_,_,.next,h l,S'.put k ⟨.inr hh,.inr rfl,λq=>hX l (S.sub l q) rfl,λq=>hX _ S.xL q.symm,iu⟩ (λa d' e j Fu hj q=>?_),?_,rfl⟩
  .cases e;exact hX l (S.mz l (.inr (.inr ⟨j,Fu,q⟩))) rfl
  .refine⟨λb o n hb e=>hk.keep b o hb (h1.keep b o n e),λb o e=>(aO (h1.there b o e) λo' e'=>hk.there b o' e'),λT=>hk.tb (h1.tb T),λb q=>?_,λb q=>q.elim .inl λq=>.inr (q▸hn),λb q=>.inl (.inl q),h1.os,h1.gens⟩;rcases q with q|q|⟨j,d',q⟩
   .exact .inl (.inl q)
   .exact .inl (.inr (.inl q))
   .by_cases hj:j=i
    ·(replace hj:=V7 hj;subst hj)
     rw[Uk]at q;simp only[V8]at q;split at q<;>cases q<;>exact .inr hn
    .rw[Tq (λz=>hj z.symm)]at q;exact .inl (.inr (.inr ⟨j,d',q⟩))) λ_ _ f=>f) hs
def St.freeze(S:St G F X ρ h)(hx:F.vars[i]? =some x)(hm:ρ[i]? =some (.own l d))(eH:(x==accN)=false):St G F (λb=>X b/\b≠l) (ρ.set i (.val d)) h:=by
 refine dk (S.slots i x _ hx hm) λz1 z2 z3 z4 z5=>?_;have j0:∀y c,F.env.cells.lookup y=some c->c≠l:=λy c e=>jA z5 (S.cells y c e).2.choose_spec;have sub:Ok X h (λb=>X b/\b≠l) h:=Ok.sub λa q=>q.1;refine⟨S.ok,S.gs.sub λa q=>q.1,λa q=>⟨S.sub a q,λe=>z3 (e▸q)⟩,⟨S.xL,λe=>z4 e.symm⟩,S.ns,λy c e=>⟨⟨(S.cells y c e).1,j0 y c e⟩,(S.cells y c e).2⟩,by have:=S.len;simpa using this,λa b c bL cN h1 h2=>?_,λj y sl h1 h2=>?_⟩
 .have key:∀(j:Nat) (a:Addr) (d':D),(ρ.set i (.val d))[j]? =some (.own a d')->j≠i/\ρ[j]? =some (.own a d'):=λj a d' e=>by
   by_cases hj:j=i
   ·(replace hj:=V7 hj;subst hj)
    rw[Uk]at e;simp only[V8]at e;split at e<;>cases e
   rw[Tq (λz=>hj z.symm)]at e;exact⟨hj,e⟩
  exact S.uk a b c _ _ (key a c _ h1).2 (key b c _ h2).2
 by_cases hj:j=i
 ·(replace hj:=V7 hj;subst hj)
  rw[Uk]at h2;simp only[V8]at h2;split at h2
  .obtain rfl:=Option.some.inj h2;rw[hx]at h1;obtain rfl:=Option.some.inj h1;exact⟨_,z1.resolve_left (fP eH),z5.rep (λb q=>q.1) λq=>q.2 rfl⟩
  exact cG h2
 rw[Tq (λz=>hj z.symm)]at h2;have sk:=S.slots j y sl h1 h2;induction sl using Slot.casesOn with
 |no=>trivial
 |val d=>refine ao sk λv y1 y2=>?_;clear sk;exact⟨v,y1,Rep.move sub _ _ y2⟩
 |own c d'=>refine dk sk λy1 y2 y3 y4 y5=>?_;clear sk;exact⟨y1,⟨y2,λe=>hj (S.uk j i l d' d (e▸h2) hm)⟩,y3,y4,y5.move (λo _ q=>q) sub⟩
def Ex.freeze(hx:F.vars[i]? =some x)(hm:ρ[i]? =some (.own l d))(eH:(x==accN)=false)(h:Ex G F n (ρ.set i (.val d)) ss Φ):Ex G F n ρ ss Φ:=λA s X R S=>
 jt (h A s _ R (S.freeze hx hm eH)) λf s' X' az fl a b c d'=>by
  have hw:∀a,Wr F (ρ.set i (.val d)) a->Wr F ρ a:=kf (λ_ _ e=>by cases e);refine⟨X',az,fl,a,b,⟨λb o n hb e=>c.keep b o n (λq=>hb (hw b q)) e,c.there,c.tb,λa q=>(c.wr a q).elim (λz=>.inl (hw a z)) .inr,λa q=>(c.newX a q).elim (λz=>.inl z.1) .inr,λa q=>by
   by_cases hl:a=l
   .exact .inr (.inr (.inr ⟨i,d,hl▸hm⟩))
   .exact(c.up a ⟨q,hl⟩).imp id (hw a),c.os,c.gens⟩,d'⟩
def bQ.ret(a:Ev G F n ρ true e d)(h:Φ (.ret d) ρ):bQ G F n ρ (.Return (some e) pos) Φ:=λA s X R S=>wpAny_Return_some (ay (a A s X R S) (λv aw h1 h2=>⟨X,ρ,.ret d,h,S.ext h1,.c8 h1,v,rfl,h2⟩))
def bQ.ite(x:cv G F n ρ t c)(y:c=true->Ex G F n ρ b Φ)(z:c=false->Ex G F n ρ o Φ):bQ G F n ρ (.If t b o pos) Φ:=λA s X R S=>
 wpAny_If (ay (x A s X R S) (λw aw h1 h2=>by
  subst h1;induction w using Bool.casesOn with
  |true=>exact jt (y rfl A aw X R (S.ext h2)) λf s' X' az fl a b c d=>⟨X',az,fl,a,b,(gF.c8 h2).trans S c,d⟩
  |false=>exact jt (z rfl A aw X R (S.ext h2)) λf s' X' az fl a b c d=>⟨X',az,fl,a,b,(gF.c8 h2).trans S c,d⟩))
end
structure JL(wr:XS)(s s':Shared):Prop where
 keep:∀b o,¬wr b->s.heap.get? b=some o->s'.heap.get? b=some o
 os:s'.os=s.os
 gens:AllBare s.gens->AllBare s'.gens
structure Iter(G:Gd)(A:Around)(t:Expr)(I:Addr)(ds:List D)(Z Y wr:XS)(i0:Nat->Heap->Prop):Prop where
 apart:∀b,wr b->¬Z b
 frame:∀i h h',i0 i h->(∀b o,nv o->¬Z b->h.get? b=some o->h'.get? b=some o)->i0 i h'
 item:∀i d (s:Shared) (X:XS),ds[i]? =some d->i0 i s.heap->Gs G X s.heap->(∀a,X a->Y a\/wr a)->wpAny (M G) A (pyNext (.ref I)) (λr aw=>∃v,r=some v/\
  wpAny (M G) A (letOwnedTupleGo t (.ref I) v) (λ_ au=>i0 (i+1) au.heap/\JL wr s au/\Rep G au.heap X d v/\∀b,wr b->∃o,au.heap.get? b=some o) ff aw) ff s
 done:∀(s:Shared),i0 ds.length s.heap->wpAny (M G) A (pyNext (.ref I)) (λr aw=>r=none/\JL wr s aw) ff s
 self:∀i (s:Shared),i0 i s.heap->wpAny (M G) A (pyIter (.ref I)) (λv s'=>v=.ref I/\s'=s) ff s
noncomputable def Cq(k:Bool)(X:XS)(h:Heap):XS:=λa=>(k=false/\X a)\/h.get? a=none
noncomputable def ef(G:Gd)(F:Fx)(n:Nat)(ρ:RE)(k:Bool)(t e:Expr)(ds:List D):Prop:=
 ∀(A:Around) (s:Shared) (X:XS),ec A n->St G F X ρ s.heap->wpAny (M G) A (eval e F.env) (λxv aw=>wpAny (M G) A (pyIter xv) (λit au=>Ext G s au/\
  ∃I wr i0,it=.ref I/\Iter G A t I ds (Cq k X au.heap) (Cq false X au.heap) wr i0/\i0 0 au.heap/\∀b,wr b->s.heap.get? b=none/\∃o,au.heap.get? b=some o) ff aw) ff s
noncomputable def HW(G:Gd)(n:Nat)(t:Expr)(d:D)(ds:List D):Prop:=
 ∀(A:Around) (s:Shared) (X Z:XS) (v:Value),ec A n->Gs G X s.heap->(∀a,Z a->X a)->Rep G s.heap X d v->wpAny (M G) A (pyIter v) (λit au=>Ext G s au/\
  ∃I wr i0,it=.ref I/\Iter G A t I ds (λa=>Z a\/au.heap.get? a=none) (λa=>X a\/au.heap.get? a=none) wr i0/\i0 0 au.heap/\∀b,wr b->s.heap.get? b=none/\∃o,au.heap.get? b=some o) ff s
def Iter.sub(x:Iter G A t I ds Z Y wr i0)(hz:∀a,Z' a->Z a)(hy:∀a,Y' a->Y a):Iter G A t I ds Z' Y' wr i0:=
 ⟨λb h q=>x.apart b h (hz b q),λi h h' st k=>x.frame i h h' st λb o n hb=>k b o n (λq=>hb (hz b q)),λi d s X h1 h2 h3 h4=>x.item i d s X h1 h2 h3 λa q=>(h4 a q).imp (hy a) id,x.done,x.self⟩
section
variable{G:Gd}{F:Fx}{n:Nat}{ρ:RE}{k:Bool}
def Ext.none(e:Ext G s s')(h:s'.heap.get? b=none):s.heap.get? b=none:=by
 induction z:s.heap.get? b using Option.casesOn with
 |none=>rfl
 |some o=>refine aO (e.there b o z) λo' e'=>?_;rw[h]at e';exact cG e'
def ef.of(a:Ev G F n ρ false e d)(p:HW G n t d ds):ef G F n ρ k t e ds:=λA s X R S=>ay (a A s X R S) (λv aw h1 h2=>jO (p A aw X X v R (S.ext h1).gs (λ_ q=>q) h2) λit au h3 I wr i0 e1 e2 e3 e4=>⟨h1.trans h3,I,wr,i0,e1,e2.sub (λa q=>q.elim (λz=>.inl z.2) .inr) (λa q=>q.elim (λz=>.inl z.2) .inr),e3,λb q=>⟨h1.none (e4 b q).1,(e4 b q).2⟩⟩)
noncomputable def dS(T:String):Prop:=["enumerate","zip","dict_itemiterator","dict_reverseitemiterator","odict_iterator","itertools.zip_longest","itertools.pairwise"].contains T=false
def qB(ho:s.heap.get? I=some o)(hc:o.cls=.type T)(hT:dS T)(h:Q () s):
 wpAny (M G) A (letOwnedTupleGo t (.ref I) v) Q E s:=by
 have key:∀a,wpAny (M G) A (do
  let o<-load I
  match o.cls,o.data with
  |.type n,.fields vs=>
   if["enumerate","zip","dict_itemiterator","dict_reverseitemiterator","odict_iterator","itertools.zip_longest","itertools.pairwise"].contains n&&vs[0]? ==some (rawInt a)then
    rule "for.unpacks-the-owned-tuple"
    updateField I 0 .none
  |_,_=>pure ()) Q E s:=λa=>by
  refine VU (wpAny_load ho ?_);rw[hc];induction hd:o.data using Data.casesOn with
  |fields vs=>dsimp only;unfold dS at hT;rw[hT];exact VV h
  |_=>exact VV h
 unfold letOwnedTupleGo;induction t using Expr.casesOn<;>first
  |exact VV h
  |(induction v using Value.casesOn<;>first|exact VV h|exact key _)
def Iter.ofWalks(W:Walks G.prog G.w A I fp qS ds.length P Sw)
 (hT:dS T)(F2:∀i h,Sw i h->∃o,h.get? I=some o/\o.cls=.type T)(ha:∀b,b∈qS->¬Z b)(hI:∀b,b∈qS->b=I)(xd:∀b∈fp,¬Z b)(hZ:∀b,Z b->Y b)(Ig:∀i h b o,Sw i h->b∈fp->h.get? b=some o->nv o):
 Iter G A t I ds Z Y (λb=>b∈qS) (λi h=>Sw i h/\∀i d v,ds[i]? =some d->P i v->Rep G h (λa=>Y a\/a∈qS) d v) where
 apart:=ha
 frame:=λi h h' yH hk=>cu yH λst r=>⟨W.frame i h h' st λb hb o e=>hk b o (Ig i h b o st hb e) (xd b hb) e,λi d v e1 e2=>Rep.move (λb o n e hb=>⟨hk b o n (λq=>hb (.inl (hZ b q))) e,hb⟩) _ _ (r i d v e1 e2)⟩
 item:=λi d s X hd L8 S hX=>cu L8 λst r=>by have hi:i<ds.length:=(SF.mp hd).1;refine W.item i s _ _ hi st λv h' tk hP qU hk=>⟨v,rfl,?_⟩;refine ao (F2 _ _ qU) λo ho hc=>?_;refine qB (s:={s with heap:=h',toks:=tk}) ho hc hT ⟨⟨qU,λi d v e1 e2=>Rep.move (λb o _ e hb=>⟨hk b o (λq=>hb (.inr q)) e,hb⟩) _ _ (r i d v e1 e2)⟩,⟨hk,rfl,id⟩,?_,λb hb=>hI b hb▸⟨o,ho⟩⟩;exact Rep.move (λb o _ e hb=>⟨hk b o (λq=>hb (.inr q)) e,λq=>hb (hX b q)⟩) _ _ (r i d v hd hP)
 done:=λs L7=>cu L7 λst _=>W.done s _ _ st λh' tk hk=>⟨rfl,hk,rfl,id⟩
 self:=λi s H4=>cu H4 λst _=>W.self i s _ _ st ⟨rfl,rfl⟩
def jk{h:Heap}{Q:Obj->Prop}(x:∃o,h.get? a=some o/\o.cls=.type T/\Q o)(e:h.get? a=some o):nv o:=by refine bq x λo' e' c _=>?_;clear x;rw[e]at e';obtain rfl:=Option.some.inj e';exact c9 c
def Ac{h:Heap}{Q P:Obj->Prop}(x:∃o,h.get? a=some o/\o.cls=.type T/\Q o)(y:∃o,h.get? b=some o/\o.cls=.type U/\P o)(hc:c∈[a,b])(e:h.get? c=some o):nv o:=by
 simp only[Vr,Uz,V5]at hc;rcases hc with rfl|rfl
 .exact jk x e
 exact jk y e
def tl{t:Expr}:HW G n t (.list ds) ds:=λA s X Z v R S hZ r=>by
 obtain⟨l,vs,rfl,hx,hl,hr⟩:=aA.mp r;have Ij:∃o,s.heap.get? l=some o:=aO hl λ_ e=>⟨_,e⟩;have cB:l<s.heap.objs.size:=aO hl λ_ e=>VD e;refine wpAny_pyIter_list hl.isList ⟨.push,s.heap.objs.size,_,_,rfl,Iter.ofWalks (T:="list_iterator") (ds:=ds) (fp:=[s.heap.objs.size,l]) (qS:=[s.heap.objs.size]) (P:=λi v=>vs.toArray[i]? =some v) (Sw:=λi h=>h.IsListIter s.heap.objs.size l i/\h.IsList l vs.toArray) ?_ (by unfold dS;rfl) (λi h st=>bq st.1 λo a b _=>⟨o,a,b⟩) ?_ (λb hb=>by simpa using hb) ?_ ?_ (λi h b o st hb e=>Ac st.1 st.2 hb e),⟨⟨⟨_,TG _ rfl,rfl,rfl⟩,(hl.at λo e=>SR _ e).isList⟩,?_⟩,?_⟩
 .have ez:ds.length=vs.toArray.size:=by rw[Ud,hr.length]
  rw[ez];exact Walks.list (prog:=G.prog) (w:=G.w) R.handled s.heap.objs.size l (VL cB) vs.toArray
 .intro b hb;simp only[TX]at hb;subst hb;exact λq=>q.elim (λq=>S.fresh (hZ _ q)) λq=>by have z:=TG s.heap (o:=({cls:=.type "list_iterator",data:=.fields #[.ref l,.int 0 0]}:Obj)) rfl;rw[show(s.heap.push {cls:=.type "list_iterator",data:=.fields #[.ref l,.int 0 0]}).get? s.heap.objs.size=none from q]at z;exact cG z
 .intro b hb;simp only[Vr,Uz,V5]at hb;rcases hb with hb|hb
  .rw[hb];exact λq=>q.elim (λq=>S.fresh (hZ _ q)) λq=>by have z:=TG s.heap (o:=({cls:=.type "list_iterator",data:=.fields #[.ref l,.int 0 0]}:Obj)) rfl;rw[show(s.heap.push {cls:=.type "list_iterator",data:=.fields #[.ref l,.int 0 0]}).get? s.heap.objs.size=none from q]at z;exact cG z
  rw[hb];exact λq=>q.elim (λq=>hx (hZ _ q)) λq=>by refine aO Ij λo z=>?_;clear Ij;have z:=SR {cls:=.type "list_iterator",data:=.fields #[.ref l,.int 0 0]} z;rw[show(s.heap.push {cls:=.type "list_iterator",data:=.fields #[.ref l,.int 0 0]}).get? _=none from q]at z;exact cG z
 .exact λb q=>q.elim (λq=>.inl (hZ b q)) .inr
 .intro i d v e1 e2;refine ao (hr.get e1) λu f1 f2=>?_;have:u=v:=by simp at e2;rw[f1]at e2;obtain rfl:=Option.some.inj e2;rfl
  subst this;refine Rep.move (λb o _ e hb=>⟨SR _ e,λq=>?_⟩) _ _ f2;have F3:=VD e;rcases q with(q|q)|q
  .exact hb q
  .have z:=SR {cls:=.type "list_iterator",data:=.fields #[.ref l,.int 0 0]} e;rw[show(s.heap.push {cls:=.type "list_iterator",data:=.fields #[.ref l,.int 0 0]}).get? b=none from q]at z;exact cG z
  simp only[TX]at q;exact absurd (q▸F3) (Vw _)
 intro b hb;simp only[TX]at hb;subst hb;refine FN ?_ _ (TG _ rfl);induction h:s.heap.get? s.heap.objs.size using Option.casesOn with
 |none=>rfl
 |some o=>exact absurd (VD h) (Vw _)
def rD{t:Expr}:HW G n t (.tup ds) ds:=λA s X Z v R S hZ r=>by
 obtain⟨l,vs,rfl,hx,hl,hr⟩:=aQ.mp r;have Ij:∃o,s.heap.get? l=some o:=ao hl λ_ e _=>⟨_,e⟩;have cB:l<s.heap.objs.size:=ao hl λ_ e _=>VD e;refine wpAny_pyIter_tuple hl ⟨.push,s.heap.objs.size,_,_,rfl,Iter.ofWalks (T:="tuple_iterator") (ds:=ds) (fp:=[s.heap.objs.size,l]) (qS:=[s.heap.objs.size]) (P:=λi v=>vs.toArray[i]? =some v) (Sw:=λi h=>h.IsTupleIter s.heap.objs.size l i/\h.IsTuple l vs.toArray) ?_ (by unfold dS;rfl) (λi h st=>bq st.1 λo a b _=>⟨o,a,b⟩) ?_ (λb hb=>by simpa using hb) ?_ ?_ (λi h b o st hb e=>Ac st.1 st.2 hb e),⟨⟨⟨_,TG _ rfl,rfl,rfl⟩,(hl.at λo e=>SR _ e)⟩,?_⟩,?_⟩
 .have ez:ds.length=vs.toArray.size:=by rw[Ud,hr.length]
  rw[ez];exact Walks.tuple (prog:=G.prog) (w:=G.w) R.handled s.heap.objs.size l (VL cB) vs.toArray
 .intro b hb;simp only[TX]at hb;subst hb;exact λq=>q.elim (λq=>S.fresh (hZ _ q)) λq=>by have z:=TG s.heap (o:=({cls:=.type "tuple_iterator",data:=.fields #[.ref l,.int 0 0]}:Obj)) rfl;rw[show(s.heap.push {cls:=.type "tuple_iterator",data:=.fields #[.ref l,.int 0 0]}).get? s.heap.objs.size=none from q]at z;exact cG z
 .intro b hb;simp only[Vr,Uz,V5]at hb;rcases hb with hb|hb
  .rw[hb];exact λq=>q.elim (λq=>S.fresh (hZ _ q)) λq=>by have z:=TG s.heap (o:=({cls:=.type "tuple_iterator",data:=.fields #[.ref l,.int 0 0]}:Obj)) rfl;rw[show(s.heap.push {cls:=.type "tuple_iterator",data:=.fields #[.ref l,.int 0 0]}).get? s.heap.objs.size=none from q]at z;exact cG z
  rw[hb];exact λq=>q.elim (λq=>hx (hZ _ q)) λq=>by refine aO Ij λo z=>?_;clear Ij;have z:=SR {cls:=.type "tuple_iterator",data:=.fields #[.ref l,.int 0 0]} z;rw[show(s.heap.push {cls:=.type "tuple_iterator",data:=.fields #[.ref l,.int 0 0]}).get? _=none from q]at z;exact cG z
 .exact λb q=>q.elim (λq=>.inl (hZ b q)) .inr
 .intro i d v e1 e2;refine ao (hr.get e1) λu f1 f2=>?_;have:u=v:=by simp at e2;rw[f1]at e2;obtain rfl:=Option.some.inj e2;rfl
  subst this;refine Rep.move (λb o _ e hb=>⟨SR _ e,λq=>?_⟩) _ _ f2;have F3:=VD e;rcases q with(q|q)|q
  .exact hb q
  .have z:=SR {cls:=.type "tuple_iterator",data:=.fields #[.ref l,.int 0 0]} e;rw[show(s.heap.push {cls:=.type "tuple_iterator",data:=.fields #[.ref l,.int 0 0]}).get? b=none from q]at z;exact cG z
  simp only[TX]at q;exact absurd (q▸F3) (Vw _)
 intro b hb;simp only[TX]at hb;subst hb;refine FN ?_ _ (TG _ rfl);induction h:s.heap.get? s.heap.objs.size using Option.casesOn with
 |none=>rfl
 |some o=>exact absurd (VD h) (Vw _)
def St.E0{X X' wr:XS}(S:St G F X ρ h)(hk:∀b o,¬wr b->h.get? b=some o->h'.get? b=some o)(BQ:∀b,wr b->X b)(yt:∀b,wr b->¬Wr F ρ b/\¬F.aD b/\∀x,F.env.cells.lookup x≠some b)
 (h1:∀a,X' a->X a)(h2:∀a,X a->X' a\/wr a)(live:∀a,X' a->wr a->∃o,h'.get? a=some o):St G F X' ρ h':=by
 have up:∀a,X a->¬wr a->X' a:=λa q nq=>(h2 a q).resolve_right nq;have ok:Ok X h X' h':=λb o _ e hb=>⟨hk b o (λq=>hb (BQ b q)) e,λq=>hb (h1 b q)⟩;have nL:¬wr F.env.locals:=λq=>(yt _ q).1 (.inl rfl);have nC:∀x c,F.env.cells.lookup x=some c->¬wr c:=λx c e q=>(yt _ q).2.2 x e;have hold:∀y ov,Holds F.env h y ov->Holds F.env h' y ov:=λy ov z=>by
  rcases z with⟨z1,m,z2,z3⟩|⟨z1,c,z2,z3⟩
  .exact .inl ⟨z1,m,z2.at' (λo e=>hk _ o nL e),z3⟩
  refine ao z3 λo ho hd=>?_;clear z3;exact .inr ⟨z1,c,z2,o,hk c o (nC y c z2) ho,hd⟩
 refine⟨S.ok,⟨S.gs.tb.apart hk λb q=>S.gs.new b (BQ b q),λa q=>?_,λa q=>S.gs.new a (h1 a q)⟩,λa q=>up a (S.sub a q) (λz=>(yt a z).2.1 q),up _ S.xL nL,
  let⟨m,e⟩:=S.ns;⟨m,e.at' λo e=>hk _ o nL e⟩,λx c e=>⟨up _ (S.cells x c e).1 (nC x c e),d4 ((S.cells x c e).2) λov o ho hd=>⟨ov,o,hk c o (nC x c e) ho,hd⟩⟩,S.len,S.uk,λi x sl e1 e2=>?_⟩
 .by_cases hw:wr a
  .exact live a q hw
  refine aO (S.gs.live a (h1 a q)) λo e=>?_;exact⟨o,hk a o hw e⟩
 have sk:=S.slots i x sl e1 e2;induction sl using Slot.casesOn with
 |no=>trivial
 |val d=>refine ao sk λv z1 z2=>?_;clear sk;exact⟨v,hold _ _ z1,Rep.move ok _ _ z2⟩
 |own a d=>refine dk sk λz1 z2 z3 z4 z5=>?_;clear sk;have na:¬wr a:=λq=>(yt a q).1 (.inr (.inr ⟨i,d,e2⟩));exact⟨z1.imp id (hold _ _),up a z2 na,z3,z4,z5.move (λo _ e=>hk a o na e) ok⟩
def St.sR{X wr:XS}(S:St G F X ρ s.heap)(e:Ext G s s')(hn:∀b,wr b->s.heap.get? b=none)(hl:∀b,wr b->∃o,s'.heap.get? b=some o):St G F (λb=>X b\/wr b) ρ s'.heap:=by
 have S1:=S.ext e;have ok:Ok X s.heap (λb=>X b\/wr b) s'.heap:=λb o n q hb=>⟨e.keep b o n q,λx=>x.elim hb λy=>by rw[hn b y]at q;exact cG q⟩;refine⟨S1.ok,⟨S1.gs.tb,λb x=>x.elim (S1.gs.live b) (hl b),λb x=>x.elim (S1.gs.new b) λy=>?_⟩,λb x=>.inl (S1.sub b x),.inl S1.xL,S1.ns,λx c q=>⟨.inl (S1.cells x c q).1,(S1.cells x c q).2⟩,S1.len,S1.uk,λi x sl h1 h2=>?_⟩
 .exact S.gs.tb.none (hn b y)
 have sk:=S.slots i x sl h1 h2;induction sl using Slot.casesOn with
 |no=>trivial
 |val d=>refine ao sk λv z1 z2=>?_;clear sk;exact⟨v,z1.keeps e.keep,Rep.move ok _ _ z2⟩
 |own c d=>refine dk sk λz1 z2 z3 z4 z5=>?_;clear sk;exact⟨z1.imp id λz=>z.keeps e.keep,.inl z2,z3,z4,z5.move (λo n q=>e.keep _ _ n q) ok⟩
structure gD(G:Gd)(F:Fx)(wr X X':XS)(ρ az:RE)(s s':Shared):Prop where
 keep:∀b o,nv o->¬Wr F ρ b->¬wr b->s.heap.get? b=some o->s'.heap.get? b=some o
 there:∀b o,¬wr b->s.heap.get? b=some o->∃o',s'.heap.get? b=some o'
 tb:Tb G s.heap->Tb G s'.heap
 rZ:∀a,Wr F az a->Wr F ρ a\/s.heap.get? a=none
 newX:∀a,X' a->X a\/s.heap.get? a=none
 up:∀a,X a->X' a\/Wr F ρ a\/wr a
 os:s'.os=s.os
 gens:AllBare s.gens->AllBare s'.gens
def gD.refl:gD G F wr X X ρ ρ s s:=⟨λ_ _ _ _ _ e=>e,λb o _ e=>⟨o,e⟩,id,λ_ x=>.inl x,λ_ x=>.inl x,λ_ x=>.inl x,rfl,id⟩
def gD.step(hw:∀a,Wr F ρ a->X a)(hl:∀a,X a->∃o,s.heap.get? a=some o)(Ll:∀a,wr a->X a)(zD:∀a,wr a->∃o,s'.heap.get? a=some o)(x:gD G F wr X X' ρ az s s')(y:gF G F X' lU az kG s' BN):gD G F wr X lU ρ kG s BN:=by
 have ex:∀a,s'.heap.get? a=none->(Wr F ρ a\/wr a)\/s.heap.get? a=none:=λa e=>by
  by_cases h2:wr a
  .exact .inl (.inr h2)
  induction h:s.heap.get? a using Option.casesOn with
  |none=>exact .inr rfl
  |some o=>refine aO (x.there a o h2 h) λo' e'=>?_;rw[e]at e';exact cG e'
 refine⟨λb o n hb nB e=>?_,λb o nw e=>aO (x.there b o nw e) λo' e'=>y.there b o' e',λT=>y.tb (x.tb T),λa ha=>?_,λa ha=>?_,λa ha=>?_,y.os.trans x.os,λg=>y.gens (x.gens g)⟩
 .refine y.keep b o n (λHO=>?_) (x.keep b o n hb nB e);rcases x.rZ b HO with h|h
  .exact hb h
  rw[e]at h;exact yq h
 .rcases y.wr a ha with h|h
  .exact x.rZ a h
  rcases ex a h with(h'|h')|h'
  .exact .inl h'
  .refine aO (zD a h') λo e=>?_;rw[h]at e;exact cG e
  exact .inr h'
 .rcases y.newX a ha with h|h
  .exact x.newX a h
  rcases ex a h with(h|h)|h
  .exact .inl (hw a h)
  .exact .inl (Ll a h)
  exact .inr h
 rcases x.up a ha with h|h
 .rcases y.up a h with h|h
  .exact .inl h
  rcases x.rZ a h with h|h
  .exact .inr (.inl h)
  refine aO (hl a ha) λo e=>?_;rw[h]at e;exact cG e
 exact .inr h
noncomputable def Gj(G:Gd)(F:Fx)(N:Nat)(Inv:Nat->RE->Prop)(i0:Nat->Heap->Prop)(wr X:XS)(ρ:RE)(s:Shared)(k:Nat)(s':Shared):Prop:=∃i X' az,k=N - i/\i<=N/\Inv i az/\St G F X' az s'.heap/\i0 i s'.heap/\gD G F wr X X' ρ az s s'/\∀b,wr b->X' b
noncomputable def EY(G:Gd)(F:Fx)(Φ:Ph)(wr X:XS)(ρ:RE)(s:Shared)(r:Result)(s':Shared):Prop:=match r with|.ok f=>∃X' az fl,Φ fl az/\St G F X' az s'.heap/\gD G F wr X X' ρ az s s'/\JK G F s'.heap fl f|.error e=>ff e s'
def BL(Inv:Nat->RE->Prop)(R:ec A n)(S:St G F X ρ s.heap)
 (it:Iter G A t I ds Z Y wr i0)(st:i0 0 s.heap)(BQ:∀b,wr b->X b)(yt:∀b,wr b->¬Wr F ρ b/\¬F.aD b/\∀x,F.env.cells.lookup x≠some b)(hZ:∀a,Wr F ρ a\/s.heap.get? a=none->Z a)(hY:∀a,X a\/s.heap.get? a=none->Y a\/wr a)
 (h0:Inv 0 ρ)(turn:∀i d az,ds[i]? =some d->Inv i az->∃eD,As G F n az t d eD/\Ex G F n eD body (λfl ck=>match fl with|.next=>Inv (i+1) ck|fl=>Φ fl ck))(fin:∀az,Inv ds.length az->Φ .next az):
 codeAny (M G) A (.forLoop t (.ref I) body [] F.env) (EY G F Φ wr X ρ s) s:=by
 have Mf:∀b,wr b->∃o,s.heap.get? b=some o:=λb hb=>S.gs.live b (BQ b hb);refine codeAny_forLoop_any (Gj G F ds.length Inv i0 wr X ρ s) ?_ ds.length
  ⟨0,X,ρ,rfl,VO _,h0,S,st,.refl,BQ⟩
 intro k s' bx;refine cQ bx λi X' az hk hi inv fS=>?_;refine kS fS λS' qU eG mV=>?_;clear bx fS;have mU:∀b,wr b->¬Wr F az b/\¬F.aD b/\∀x,F.env.cells.lookup x≠some b:=λb hb=>by refine⟨λq=>(eG.rZ b q).elim (yt b hb).1 λq=>?_,(yt b hb).2⟩;refine aO (Mf b hb) λo e=>?_;rw[q]at e;exact cG e
 have Rz:∀b,wr b->∃o,s'.heap.get? b=some o:=λb hb=>S'.gs.live b (mV b hb);by_cases cB:i<ds.length
 .have hd:ds[i]? =some ds[i]:=SK cB;refine qy (it.item i ds[i] s' X' hd qU S'.gs λa q=>hY a (eG.newX a q)) λv aw hq=>?_;dsimp only;refine Ae hq λ_ au zj ext rep live=>?_;refine ao (turn i ds[i] az hd inv) λeD as ex=>?_;have S2:St G F X' az au.heap:=S'.E0 ext.keep mV mU (λ_ q=>q) (λ_ q=>.inl q) (λa _ q=>live a q);refine sr (as A au X' v R S2 rep) λ_ d7 S3 p3=>?_;refine mr (ex A d7 X' R S3) λf df lU ck fl e1 S4 p4 e4=>?_;have pt:gF G F X' lU az ck au df:=p3.trans S2 p4;have p2:gD G F wr X X' ρ az s au:=⟨λb o n hb nB e=>ext.keep b o nB (eG.keep b o n hb nB e),λb o nw e=>(aO (eG.there b o nw e) λo' e'=>⟨o',ext.keep b o' nw e'⟩),λT=>(eG.tb T).apart ext.keep λb q=>S'.gs.new b (mV b q),eG.rZ,eG.newX,eG.up,ext.os.trans eG.os,λg=>ext.gens (eG.gens g)⟩;have p5:gD G F wr X lU ρ ck s df:=p2.step S.mz S.gs.live BQ (λa q=>live a q) pt;have H2:i0 (i+1) df.heap:=it.frame _ au.heap _ zj λb o n hb e=>pt.keep b o n (λq=>by
   rcases eG.rZ b q with q|q
   .exact hb (hZ b (.inl q))
   .exact hb (hZ b (.inr q))) e
  have wX:∀b,wr b->lU b:=λb hb=>(pt.up b (mV b hb)).resolve_right (mU b hb).1;induction fl using Fl.casesOn with
  |next=>cases e4;exact⟨ds.length - (i+1),hk▸TA ds.length i cB,gy (i+1) lU ck rfl cB e1 ⟨S4,H2,p5,wX⟩⟩
  |ret d=>(refine ao e4 λu aB hu=>?_;clear e4;subst aB);exact gy lU ck (.ret d) e1 S4 p5 ⟨u,rfl,hu⟩
 have:i=ds.length:=by exact(A2 [.e Va Vb,.n nE] se) hi cB
 subst this;refine wy (it.done s' qU) λaw ext=>?_;dsimp only;refine wpAny_execs_nil ?_;have S2:St G F (λb=>X' b/\¬wr b) az aw.heap:=S'.E0 ext.keep mV mU (λ_ q=>q.1) (λa q=>by
  by_cases h:wr a
  .exact .inr h
  .exact .inl ⟨q,h⟩) (λa q1 q2=>absurd q2 q1.2)
 exact gy _ az .next (fin az inv) S2 ⟨λb o n hb nB e=>ext.keep b o nB (eG.keep b o n hb nB e),λb o nw e=>(aO (eG.there b o nw e) λo' e'=>⟨o',ext.keep b o' nw e'⟩),λT=>(eG.tb T).apart ext.keep λb q=>S'.gs.new b (mV b q),eG.rZ,λa q=>eG.newX a q.1,λa q=>by
  by_cases hw:wr a
  .exact .inr (.inr hw)
  .exact(eG.up a q).imp (λz=>⟨z,hw⟩) id,ext.os.trans eG.os,λg=>ext.gens (eG.gens g)⟩ rfl
def bQ.xp{t bM:Expr}(Inv:Nat->RE->Prop)(h:ef G F n ρ false t bM ds)(h0:Inv 0 ρ)
 (turn:∀i d az,ds[i]? =some d->Inv i az->∃eD,As G F n az t d eD/\Ex G F n eD body (λfl ck=>match fl with|.next=>Inv (i+1) ck|fl=>Φ fl ck))(fin:∀az,Inv ds.length az->Φ .next az)
 (hs:autoParam (∀x,foldedSetIterable bM F.env x=pure x) tIs):bQ G F n ρ (.For t bM body [] pos) Φ:=λA s X R S=>by
 refine wpAny_For (VW (h A s X R S) (λxv aw hq=>jO hq λit au ex I wr i0 e1 e2 e3 e4=>?_) λ_ _ f=>f) hs;subst e1;have hl:∀b,wr b->∃o,au.heap.get? b=some o:=λb hb=>(e4 b hb).2;have S2:=S.sR ex (λb hb=>(e4 b hb).1) hl;have nX:∀b,wr b->¬X b:=λb hb q=>by refine aO (S.gs.live b q) λo e=>?_;rw[(e4 b hb).1]at e;exact cG e
 refine codeAny_mono (BL Inv R S2 e2 e3 (λb hb=>.inr hb) (λb hb=>⟨λq=>nX b hb (S.mz b q),λq=>nX b hb (S.sub b q),λx q=>nX b hb (S.cells x b q).1⟩) (λa q=>q.elim (λq=>.inl ⟨rfl,S.mz a q⟩) .inr)
  (λa q=>q.elim (λq=>q.elim (λq=>.inl (.inl ⟨rfl,q⟩)) .inr) λq=>.inl (.inr q)) h0 turn fin) λr s' hr=>?_
 induction r using Except.casesOn with
 |error e=>exact hr.elim
 |ok f=>
  refine cQ hr λX' az fl a1 a2 a3 a4=>?_;clear hr;refine⟨X',az,fl,a1,a2,⟨λb o n hb e=>a3.keep b o n hb (λq=>by rw[(e4 b q).1]at e;exact cG e) (ex.keep b o n e),λb o e=>(aO (ex.there b o e) λo' e'=>a3.there b o' (λq=>by rw[(e4 b q).1]at e;exact cG e) e'),λT=>a3.tb (ex.tb T),λa q=>(a3.rZ a q).imp id ex.none,λa q=>?_,λa q=>?_,a3.os.trans ex.os,λg=>a3.gens (ex.gens g)⟩,a4⟩
  .rcases a3.newX a q with(h|h)|h
   .exact .inl h
   .exact .inr (e4 a h).1
   exact .inr (ex.none h)
  rcases a3.up a (.inl q)with h|h|h
  .exact .inl h
  .exact .inr h
  exact absurd q (nX a h)
end
noncomputable def qe(G:Gd)(name:Str)(params:Arguments)(body:List Stmt)(scope:Scope)(code:Value):Prop:=
 ∃a o pm doc,G.mg name=some (.ref a)/\G.h₀.get? a=some o/\o.data=.func (Calls.docDef name params body scope pm code doc)/\G.h₀.CodeRec code name/\∀c o,code=.ref c->G.h₀.get? c=some o->nv o
noncomputable def FnAt(G:Gd)(name:Str)(params:Arguments)(body:List Stmt)(scope:Scope):Prop:=∃code,qe G name params body scope code
noncomputable def Fn(G:Gd)(name:Str)(n:Nat)(args:List D)(r:D):Prop:=
 ∃a o fd,G.mg name=some (.ref a)/\G.h₀.get? a=some o/\o.data=.func fd/\PL G n args (λvs=>call (.ref a) vs) r
def gW:∀(names:List (Str×NameKind)) (n:Nat) (acc:List (Str×Addr)),(x,c)∈cellsFrom n names acc->(x,c)∈acc\/n<=c:=by
 intro l';induction l' with
 |nil=>exact @λn acc h=>.inl h
 |cons y' r aU=>
  obtain⟨y,k⟩:=y';exact @λn acc h=>by
   unfold cellsFrom at h;split at h
   .rcases aU (n+1) _ h with h|h
    .rcases Vr.mp h with h|h
     .cases h;exact .inr (VP _)
     exact .inl h
    exact .inr (le_of_succ_le h)
   exact aU n _ h
def ue{kindOf:Str->Option NameKind}{x:Str}{v:Value}(hk:kindOf x=some .local):∀(names:List Str) (vs:List Value) (m:Str->Option Value) (i:Nat),names.Nodup->names[i]? =some x->vs[i]? =some v->bindL kindOf (names.zip vs) m x=some v:=by
 have keep:∀(names:List Str) (vs:List Value) (m:Str->Option Value),x∉names->bindL kindOf (names.zip vs) m x=m x:=by
  intro names;induction names with
  |nil=>intro vs m _;rfl
  |cons y r ih=>
   intro vs m hn;induction vs using List.casesOn with
   |nil=>rfl
   |cons u us=>
    simp only[zip_cons_cons,bindL,ih us _ (λq=>hn (TB _ q))];have:x≠y:=λq=>hn (q▸Ub);split
    ·exact if_neg ‹_›
    rfl
 intro names;induction names with
 |nil=>intro vs m i _ h;trivial
 |cons y r ih=>
  intro vs m i hn h1 h2;induction vs using List.casesOn with
  |nil=>trivial
  |cons u us=>
   rw[UZ]at hn;simp only[zip_cons_cons,bindL];induction i using Nat.casesAuxOn with
   |zero=>simp at h1 h2;subst h1 h2;rw[keep r us _ hn.1,if_pos hk];simp
   |succ i=>exact ih us _ i hn.2 (by simpa using h1) (by simpa using h2)
def vJ{kindOf:Str->Option NameKind}{x:Str}{v:Value}(hk:kindOf x=some .cell):∀(names:List Str) (vs:List Value) (m:Str->Option Value) (i:Nat),names.Nodup->names[i]? =some x->vs[i]? =some v->bindC kindOf (names.zip vs) m x=some v:=by
 have keep:∀(names:List Str) (vs:List Value) (m:Str->Option Value),x∉names->bindC kindOf (names.zip vs) m x=m x:=by
  intro names;induction names with
  |nil=>intro vs m _;rfl
  |cons y r ih=>
   intro vs m hn;induction vs using List.casesOn with
   |nil=>rfl
   |cons u us=>
    simp only[zip_cons_cons,bindC,ih us _ (λq=>hn (TB _ q))];have:x≠y:=λq=>hn (q▸Ub);split
    ·rfl
    exact if_neg ‹_›
 intro names;induction names with
 |nil=>intro vs m i _ h;trivial
 |cons y r ih=>
  intro vs m i hn h1 h2;induction vs using List.casesOn with
  |nil=>trivial
  |cons u us=>
   rw[UZ]at hn;simp only[zip_cons_cons,bindC];induction i using Nat.casesAuxOn with
   |zero=>simp at h1 h2;subst h1 h2;rw[keep r us _ hn.1,if_neg (by rw[hk];decide)];simp
   |succ i=>exact ih us _ i hn.2 (by simpa using h1) (by simpa using h2)
section
variable{G:Gd}{n:Nat}
noncomputable def slotsOf(vars:List Str)(args:List D):RE:=args.map .val++replicate (vars.length - args.length) .no
noncomputable def xu{α:Type}:List α->(List Value->Prop)->Prop
 |[],P=>P []
 |_::as,P=>∀v,xu as λvs=>P (v::vs)
def xu.at{α:Type}{as:List α}:∀{P:List Value->Prop} {vs:List Value},xu as P->vs.length=as.length->P vs:=by
 induction as with
 |nil=>intro P vs h e;rw[SO.mp e];exact h
 |cons a as ih=>
  intro P vs h e;induction vs using List.casesOn with
  |nil=>(exfalso;cases e)
  |cons v vs=>exact ih (P:=λvs=>P (v::vs)) (h v) (Nat.succ.inj e)
def enter{name:Str}{body:List Stmt}{scope:Scope}{code:Value}{vars:List Str}{args:List D}{r:D}{a:Addr}{A:Around}{s:Shared}{X:XS}{vs:List Value}{h₁:Heap}{tk:Nat}
 (nT:∀(L a:Addr) (aD:XS),Ex G ⟨envOfC name scope L a code,vars,aD⟩ n (slotsOf vars args) body (λfl _=>fl=.ret r))(jW:vars.Nodup)(hlen:args.length<=vars.length)
 (gm:∀x∈vars,scope.names.lookup x=some .local\/scope.names.lookup x=some .cell)(hk:scope.kind=.function)(R:ec A (n+1))(S:Gs G X s.heap)(rl:aK G s.heap X args vs)
 (d5:Fr s.heap s.heap.objs.size h₁ (bindL (envOfC name scope s.heap.objs.size a code).kindOf (vars.zip vs) λ_=>none))
 (hW:Cl s.heap.objs.size (cellsFrom (s.heap.objs.size+1) scope.names []) h₁ (bindC (envOfC name scope s.heap.objs.size a code).kindOf (vars.zip vs) λ_=>none)):
 wpAny (M G) (A.deeper (envOfC name scope s.heap.objs.size a code)) (execs body (envOfC name scope s.heap.objs.size a code)) (λf s'=>Ext G s s'/\Rep G s'.heap X r (match f with|.ret v=>v|_=>.none)) ff {s with heap:=h₁,toks:=tk}:=by
 have oh:∀x k,scope.names.lookup x=some .cell->((cellsFrom k scope.names []).lookup x).isSome=true:=λx k e=>Vo _ _ _ (.inl e);have ext:Ext G s {s with heap:=h₁,toks:=tk}:=Ext.full d5.keep rfl id;let L:=s.heap.objs.size;let env:=envOfC name scope L a code;let X':XS:=λb=>X b\/b=L\/∃x,env.cells.lookup x=some b;have jc:∀x c,env.cells.lookup x=some c->L<c:=λx c e=>hW.above x c (mem_of_lookup e);have nL:s.heap.get? L=none:=by
  induction h:s.heap.get? L using Option.casesOn with
  |none=>rfl
  |some o=>exact absurd (VD h) (Vw _)
 have nC:∀x c,env.cells.lookup x=some c->s.heap.get? c=none:=λx c e=>by
  induction h:s.heap.get? c using Option.casesOn with
  |none=>rfl
  |some o=>exact absurd (Nat.lt_trans (VD h) (jc x c e)) (Vw _)
 have nX:∀b,(b=L\/∃x,env.cells.lookup x=some b)->s.heap.get? b=none:=λb q=>q.elim (λq=>q▸nL) λyH=>aO yH λx e=>nC x b e;have ok:Ok X s.heap X' h₁:=λb o _ e hb=>⟨d5.keep b o e,λq=>q.elim hb λq=>by rw[nX b q]at e;exact cG e⟩;have Py:aK G h₁ X' args vs:=aK.move ok _ _ rl;have hz:(args.map Slot.val++replicate (vars.length - args.length) Slot.no).length=vars.length:=by simp;exact Nat.add_sub_cancel' ‹_›
 have S':St G ⟨env,vars,X⟩ X' (slotsOf vars args) h₁:=by
  refine⟨⟨hk,rfl,rfl,hW.apart⟩,⟨S.tb.keeps d5.keep,λb q=>?_,λb q=>?_⟩,λb q=>.inl q,.inr (.inl rfl),⟨_,d5.ns⟩,λx c e=>⟨.inr (.inr ⟨x,e⟩),⟨_,hW.cell x c e⟩⟩,hz,λi j b d d' e1 e2=>?_,λi x sl e1 e2=>?_⟩
  .rcases q with q|q|⟨x,q⟩
   .refine aO (S.live b q) λo e=>?_;exact⟨o,d5.keep b o e⟩
   .refine eR d5.ns λo _ _ e _=>?_;exact⟨o,q▸e⟩
   refine ao (hW.cell x b q) λo e _=>?_;exact⟨o,e⟩
  .rcases q with q|q
   .exact S.new b q
   exact S.tb.none (nX b q)
  .exfalso;unfold slotsOf at e1;rw[getElem?_append]at e1;split at e1
   .simp at e1
   rw[getElem?_replicate]at e1;split at e1<;>simp at e1
  unfold slotsOf at e2;rw[getElem?_append]at e2;split at e2
  .rw[Uc]at e2;obtain⟨d,hd,rfl⟩:=SS.mp e2;refine ao (Py.get hd) λv hv hr=>?_;refine⟨v,?_,hr⟩;have hx:x∈vars:=To e1;rcases gm x hx with q|q
   .exact .inl ⟨q,_,d5.ns,ue q vars vs _ i jW e1 hv⟩
   refine aO (SM.mp (oh x (L+1) q)) λc hc=>?_;refine .inr ⟨.inl q,c,hc,?_⟩;have:=hW.cell x c hc;rw[vJ q vars vs _ i jW e1 hv]at this;exact this
  rw[getElem?_replicate]at e2;split at e2
  .obtain rfl:=Option.some.inj e2;trivial
  exact cG e2
 have R':ec (A.deeper env) n:=⟨R.handled,by have:=R.depth;show A.depth+1+n<_;exact(A3 [.l pQ Vc] (.l (.a fJ Vb) Vc)) this,by have:=R.units;show A.units+3+20*n+100<_;exact(A3 [.l (.a (.a Va (.m 20 f9)) q0) Vc] (.l (.a (.a (.a Va K3) (.m 20 Vb)) q0) Vc)) this⟩;refine jt (nT L a X (A.deeper env) {s with heap:=h₁,toks:=tk} X' R' S') λf s' lU az fl e1 Sj p e4=>?_;subst e1;(refine ao e4 λv aB hv=>?_;clear e4;subst aB);refine⟨⟨λb o n e=>p.keep b o n (λq=>?_) (d5.keep b o e),λb o e=>p.there b o (d5.keep b o e),λT=>p.tb (ext.tb T),p.os,p.gens⟩,hv⟩;rcases q with q|q|⟨i,d,q⟩
 .rw[show b=L from q,nL]at e;exact cG e
 .rw[nX b (.inr q.2)]at e;exact cG e
 unfold slotsOf at q;rw[getElem?_append]at q;split at q
 .simp at q
 rw[getElem?_replicate]at q;split at q<;>simp at q
def Fn.Ah{name:Str}{params:Arguments}{body:List Stmt}{scope:Scope}{code:Value}(fa:qe G name params body scope code)(vars:List Str){args:List D}{r:D}
 (nT:∀(L a:Addr) (aD:XS),Ex G ⟨envOfC name scope L a code,vars,aD⟩ n (slotsOf vars args) body (λfl _=>fl=.ret r))
 (nU:xu args λvs=>∀pm cd doc,bindArgs (Calls.docDef name params body scope pm cd doc) ⟨vs,[]⟩=pure (vars.zip vs))
 (jW:vars.Nodup)(hlen:args.length<=vars.length)
 (gm:∀x∈vars,scope.names.lookup x=some .local\/scope.names.lookup x=some .cell)
 (Cg:autoParam (scope.isCoroutine=false) tR)(uD:autoParam (scope.isGenerator=false) tR)(hk:autoParam (scope.kind=.function) tR):Fn G name (n+1) args r:=by
 (refine ia fa λa o pm doc Ih ho fS=>?_;clear fa;refine dW fS λkM xg m9=>?_;clear fS);refine⟨a,o,_,Ih,ho,kM,λA s X vs R S rl=>?_⟩;have oh:∀x k,scope.names.lookup x=some .cell->((cellsFrom k scope.names []).lookup x).isSome=true:=λx k e=>Vo _ _ _ (.inl e);refine wpAny_call (call_cells_ret (TV (UB _ _) R.depth) (S.base _ _ (lg kM) ho) kM (ao G.nolimit λmc x y=>⟨mc,Ns.b4 x (S.base _),y⟩) (ia xg λc o vs t e g r=>⟨c,o,vs,t,e,S.base _ _ (m9 c o e g) g,r⟩) (nU.at rl.length pm code doc) (λx hx=>?_) (λh₁ tk d5 hW=>?_) Cg uD hk)
 .obtain⟨x,v⟩:=x;have:=(of_mem_zip hx).1;exact(gm x this).imp id λe=>⟨e,oh x _ e⟩
 exact enter nT jW hlen gm hk R S rl d5 hW
def Fn.intro(fa:FnAt G name params body scope)(vars:List Str)
 (nT:∀(L a:Addr) (cd:Value) (aD:XS),Ex G ⟨envOfC name scope L a cd,vars,aD⟩ n (slotsOf vars args) body (λfl _=>fl=.ret r))
 (nU:xu args λvs=>∀pm cd doc,bindArgs (Calls.docDef name params body scope pm cd doc) ⟨vs,[]⟩=pure (vars.zip vs))
 (jW:vars.Nodup)(hlen:args.length<=vars.length)
 (gm:∀x∈vars,scope.names.lookup x=some .local\/scope.names.lookup x=some .cell)
 (Cg:autoParam (scope.isCoroutine=false) tR)(uD:autoParam (scope.isGenerator=false) tR)(hk:autoParam (scope.kind=.function) tR):Fn G name (n+1) args r:=by
 refine aO fa λcode fa=>?_;exact Fn.Ah fa vars (λL a aD=>nT L a code aD) nU jW hlen gm Cg uD hk
variable{F:Fx}{ρ:RE}{k:Bool}
def rG(S:St G F X ρ s.heap)(hx:F.env.kindOf x=some .globalImplicit)(hv:G.mg x=some v)(h:Q v s):
 wpAny (M G) A (loadName F.env x) Q E s:=by
 rw[loadName_read S.ok.kind hx];refine Calls.loadGlobal_global (mg:=G.mg) ?_ hv h;rw[S.ok.globals];exact Ns.b4 G.g (S.gs.base _)
def ld_builtin(S:St G F X ρ s.heap)(hx:F.env.kindOf x=some .globalImplicit)(hm:G.mg x=none)(hv:G.mb x=some v)(h:Q v s):
 wpAny (M G) A (loadName F.env x) Q E s:=by
 rw[loadName_read S.ok.kind hx];refine Calls.loadGlobal_builtin (mg:=G.mg) (mb:=G.mb) ?_ hm ?_ hv h
 .rw[S.ok.globals];exact Ns.b4 G.g (S.gs.base _)
 rw[S.ok.builtins];exact Ns.b4 G.b (S.gs.base _)
def Ev.glob (hx:F.env.kindOf x=some .globalImplicit) (hv:G.mg x=some v) (hd:∀X h,Gs G X h->Rep G h X d v) (h:autoParam ((x==("__debug__":Str))=false) tD):Ev G F n ρ k (.Name x p) d:=λA s X R S=>VY (rG S hx hv ⟨.refl _,hd _ _ S.ph⟩) h
def Ev.vZ(f:Fn G x n ds d)(hx:F.env.kindOf x=some .globalImplicit)(a:b8 G F n ρ k (e::es) ds)
 (he:autoParam (starEach (e::es) F.env=(false,eval e F.env)::starEach es F.env) tR)
 (h:autoParam ((x==("__debug__":Str))=false) tD):Ev G F n ρ k (.Call (.Name x p) (e::es) [] pos) d:=λA s X R S=>by
 refine cQ f λl o fd Ih ho kM pl=>?_;clear f;refine Call_Name rfl (VY (rG S hx Ih ?_) h);refine callWith_def (o:=o) (fd:=fd) kM ?_ he;refine ay (a A s X _ R S) (λvs aw h1 h2=>⟨h1.keep _ _ (lg kM) (S.gs.base _ _ (lg kM) ho),?_⟩);exact ay (pl A aw _ vs R (S.ext h1).ph h2) (λv au h3 h4=>⟨h1.trans h3,h4⟩)
structure Bn(G:Gd)(x:Str)(v:Value):Prop where
 free:G.mg x=none
 here:G.mb x=some v
def Ev.i7{x:Str}{id:String}{p pos:Pos}(b:Bn G x (.builtin id))(hx:F.env.kindOf x=some .globalImplicit)(a:b8 G F n ρ k (e::es) ds)(pl:PL G n ds (λvs=>call (.builtin id) vs) d)
 (he:autoParam (starEach (e::es) F.env=(false,eval e F.env)::starEach es F.env) tR)
 (dR:autoParam ((backTo pos (starEach es F.env)).any (·.1)=false) tR)
 (h:autoParam ((x==("__debug__":Str))=false) tD):Ev G F n ρ k (.Call (.Name x p) (e::es) [] pos) d:=λA s X R S=>by
 refine Call_Name rfl (VY (ld_builtin S hx b.free b.here ?_) h);refine PyProof.Rows.callWith_builtin1 ?_ he dR;refine ay (a A s X _ R S) (λvs aw h1 h2=>?_);exact ay (pl A aw _ vs R (S.ext h1).ph h2) (λv au h3 h4=>⟨h1.trans h3,h4⟩)
def Ev.vY(b:Bn G x (.type T))(hx:F.env.kindOf x=some .globalImplicit)(a:b8 G F n ρ k (e::es) ds)(pl:PL G n ds (λvs=>call (.type T) vs) d)
 (he:autoParam (starEach (e::es) F.env=(false,eval e F.env)::starEach es F.env) tR)
 (dR:autoParam ((backTo pos (starEach es F.env)).any (·.1)=false) tR)
 (h:autoParam ((x==("__debug__":Str))=false) tD):Ev G F n ρ k (.Call (.Name x p) (e::es) [] pos) d:=λA s X R S=>by
 refine Call_Name rfl (VY (ld_builtin S hx b.free b.here ?_) h);refine Ss ?_ he dR;refine ay (a A s X _ R S) (λvs aw h1 h2=>?_);exact ay (pl A aw _ vs R (S.ext h1).ph h2) (λv au h3 h4=>⟨h1.trans h3,h4⟩)
end
section
variable{G:Gd}{F:Fx}{n:Nat}{ρ:RE}{k:Bool}
noncomputable def D.ty:D->Option String
 |.str _=>some "str"
 |.list _=>some "list"
 |.aG _=>some "dict"
 |.cF _=>some "dict"
 |_=>Option.none
def Rep.ty{s:Shared}{X:XS}(r:Rep G s.heap X d v)(h:d.ty=some T):s.TypeIs v T/\∀a,v=.ref a->∃o,s.heap.get? a=some o/\o.dict=none:=by
 induction d using D.casesOn with
 |str x=>obtain rfl:=Option.some.inj h;obtain⟨t,rfl⟩:=aM.mp r;exact⟨typeIs_str _ _ _,λa e=>by(exfalso;cases e)⟩
 |list ds=>obtain rfl:=Option.some.inj h;obtain⟨a,vs,rfl,_,⟨m,ho⟩,_⟩:=aA.mp r;exact⟨⟨_,ho,rfl⟩,λb e=>by cases e;exact⟨_,ho,rfl⟩⟩
 |aG ds=>obtain rfl:=Option.some.inj h;obtain⟨a,vs,rfl,_,_,hl,_⟩:=cj.mp r;exact⟨hl.typeIs,λb e=>by cases e;obtain⟨o,es,ep,ho,hx,_⟩:=hl;exact⟨o,ho,hx.2.1⟩⟩
 |cF ds=>obtain rfl:=Option.some.inj h;obtain⟨a,vs,rfl,_,_,hl,_⟩:=dC.mp r;exact⟨hl.typeIs,λb e=>by cases e;obtain⟨o,es,ep,ho,hx,_⟩:=hl;exact⟨o,ho,hx.2.1⟩⟩
 |_=>exact cG h
structure Mt(T:String)(name:Str)(id:String):Prop where
 plain:PlainAttrs T
 slot:PySem.Slot T name id
 ty:typeOf (.builtin id)=pure (.type "method_descriptor")
def Ev.sL{o:Expr}{name:Str}{apos pos:Pos}{id T:String}{jU d:D}(m:Mt T name id)(hT:jU.ty=some T)(a:Ev G F n ρ k o jU)(pl:PL G n [jU] (λvs=>call (.builtin id) vs) d)
 (jl:autoParam (attributeBase o name F.env (eval o F.env)=eval o F.env) tR)(dH:autoParam ((apos.endLine==pos.line)=true) tR):Ev G F n ρ k (.Call (.Attribute o name apos) [] [] pos) d:=λA s X R S=>
 SY jl (by rfl) dH rfl (ay (a A s X R S) (λov aw h1 h2=>by refine cu (h2.ty hT) λt1 t2=>?_;refine⟨T,id,m.plain,m.slot,m.ty,t1,t2,?_⟩;refine callWith_method0 ?_;exact ay (pl A aw _ [ov] R (S.ext h1).ph (a0 h2 b6)) (λv au h3 h4=>⟨h1.trans h3,h4⟩)))
def Ev.J8{o:Expr}{name:Str}{apos pos:Pos}{id T:String}(m:Mt T name id)(hT:jU.ty=some T)(a:Ev G F n ρ k o jU)(b:b8 G F n ρ k (e::es) ds)(pl:PL G n (jU::ds) (λvs=>call (.builtin id) vs) d)
 (jl:autoParam (attributeBase o name F.env (eval o F.env)=eval o F.env) tR)(dH:autoParam ((apos.endLine==pos.line)=true) tR)
 (zc:autoParam (((backTo pos (starEach (e::es) F.env)).all (λx=> !x.1)&&(backToKw pos (keywordEach [] F.env)).all (λx=>x.1.isSome)
  &&decide ((e::es).length+([]:List Keyword).length+(if([]:List Keyword).isEmpty then 0 else 1)<30))=true) tR)
 (he:autoParam (starEach (e::es) F.env=(false,eval e F.env)::starEach es F.env) tR)
 (dR:autoParam ((backTo pos (starEach es F.env)).any (·.1)=false) tR):Ev G F n ρ k (.Call (.Attribute o name apos) (e::es) [] pos) d:=λA s X R S=>
 SY jl zc dH rfl (ay (a A s X R S) (λov aw h1 h2=>by refine cu (h2.ty hT) λt1 t2=>?_;refine⟨T,id,m.plain,m.slot,m.ty,t1,t2,?_⟩;refine callWith_method1 ?_ he dR;refine ay (b A aw X _ R (S.ext h1)) (λvs au h3 h4=>?_);exact ay (pl A au _ (ov::vs) R ((S.ext h1).ext h3).ph (a0 (h3.rep h2) h4)) (λv d7 h5 h6=>⟨(h1.trans h3).trans h5,h6⟩)))
def PL.one(h:P1 G n d (λv=>t [v]) r):PL G n [d] t r:=λA s X vs R S rl=>by obtain⟨v,u,rfl,hv,hu⟩:=af.mp rl;obtain rfl:=aE.mp hu;exact h A s X v R S hv
def PL.two(h:P2 G n d e (λv u=>t [v,u]) r):PL G n [d,e] t r:=λA s X vs R S rl=>by obtain⟨v,u,rfl,hv,hu⟩:=af.mp rl;(refine bZ (af.mp hu) λv' u' aB pM pN=>?_;clear hu;subst aB);obtain rfl:=aE.mp pN;exact h A s X v v' R S hv pM
def Eo(hz:ds.length<2^62):PL G n [.list ds] (λvs=>call (.builtin "len") vs) (.int ds.length):=.one λA s X v R S r=>by obtain⟨l,vs,rfl,hx,hl,hr⟩:=aA.mp r;refine Calls.call_len_list hl.isList (by rw[Ud,hr.length];exact(A1 [.l Va Ck] (.L bA yP)) hz) ?_;rw[Ud,hr.length];exact⟨.toks,bO⟩
def kh(hz:x.length<2^62):PL G n [.str x] (λvs=>call (.builtin "len") vs) (.int x.length):=.one λA s X v R S r=>by obtain⟨t,rfl⟩:=aM.mp r;exact P.len_str (by exact(A1 [.l Va Ck] (.n (.E yP bA))) hz) ⟨.toks,bO⟩
def Ke:PL G n [.int a] (λvs=>call (.builtin "abs") vs) (.int a.natAbs):=.one λA s X v R S r=>by
 obtain⟨t,rfl⟩:=ak.mp r;refine call_abs_int λu tk=>⟨.toks,?_⟩;have:(if a<0 then -a else a)=(a.natAbs:Int):=by split<;>lia
 rw[this];exact bO
def sN:PL G n [.int a,.int b] (λvs=>call (.builtin "min") vs) (.int (min a b)):=.two λA s X fK ey R S dK dJ=>by
 obtain⟨t,rfl⟩:=ak.mp dK;obtain⟨u,rfl⟩:=ak.mp dJ;refine min_two_ints R.handled λh' tk hk=>⟨.jI hk,?_⟩;by_cases c:b<a
 .rw[if_pos c,show min a b=b by exact(I2 [.L Qa Qb] (.Q (.i Qb Qa) Qa)) c];exact bO
 rw[if_neg c,show min a b=a by exact(I2 [.n q9] (.Q (.i Qb Qa) Qb)) c];exact bO
def Kd:PL G n [.int a,.int b] (λvs=>call (.builtin "max") vs) (.int (max a b)):=.two λA s X fK ey R S dK dJ=>by
 obtain⟨t,rfl⟩:=ak.mp dK;obtain⟨u,rfl⟩:=ak.mp dJ;refine max_two_ints R.handled λh' tk hk=>⟨.jI hk,?_⟩;by_cases c:b>a
 .rw[if_pos c,show max a b=b by exact(I2 [.L Qa Qb] (.Q (.j Qa Qb) Qb)) c];exact bO
 rw[if_neg c,show max a b=a by exact(I2 [.n q9] (.Q (.j Qa Qb) Qa)) c];exact bO
def oR(xs:List Int)(val:Nat->Int)(h:∀(i:Nat) (x:Int),xs[i]? =some x->val i=x):preSum val xs.length=xs.sum:=by
 have key:∀(m:Nat),m<=xs.length->preSum val m=(xs.take m).sum:=by
  intro m;induction m with
  |zero=>intro _;simp[preSum]
  |succ m ih=>
   intro hm;have cB:m<xs.length:=by assumption
   simp only[show preSum val (m+1)=preSum val m+val m from rfl,ih (by exact VE ‹_›),h m xs[m] (SK cB),Ug,SK cB,sum_append];simp
 simp only[key xs.length (VP _),UA]
def Kc{xs:List Int}:PL G n [.list (xs.map .int)] (λvs=>call (.builtin "sum") vs) (.int xs.sum):=.one λA s X v R S r=>by
 obtain⟨l,vs,rfl,hx,hl,hr⟩:=aA.mp r;refine call_sum_walkAnyS (wpAny_pyIter_list hl.isList ?_);have cB:l<s.heap.objs.size:=aO hl λ_ e=>VD e;have hint:∀(i:Nat) (u:Value),vs[i]? =some u->∃t,u=.int (xs.getD i 0) t:=λi u e=>by
  have hi:i<xs.length:=by have:=(SF.mp e).1;rw[hr.length]at this;simpa using this
  refine ao (hr.get (i:=i) (d:=.int xs[i]) (by simp[hi])) λu' e1 e2=>?_;rw[e]at e1;obtain rfl:=Option.some.inj e1;rw[Su,SK hi];exact ak.mp e2
 refine ic _ _ _ _ _ _ (jP _ (λi=>xs.getD i 0) rfl ((Walks.list (prog:=G.prog) (w:=G.w) (A:=A.in1) R.handled s.heap.objs.size l (VL cB) vs.toArray).toS) ⟨⟨_,TG _ rfl,rfl,rfl⟩,(hl.at λo e=>SR _ e).isList⟩ ?_ ?_ ?_)
 .intro b hb;have hz:(s.heap.push {cls:=.type "list_iterator",data:=.fields #[.ref l,.int 0 0]}).objs.size=s.heap.objs.size+1:=Vl ..;refine(?_:b<(s.heap.push _).objs.size);simp only[hz];revert b;refine mA ?_ (mA ?_ mN)
  .exact UG _
  exact Uj cB
 .intro i v hv;exact hint i v (by simpa using hv)
 intro s' t' hm;have hz:vs.toArray.size=xs.length:=by rw[Ud,hr.length];exact US ..
 rw[hz,oR xs _ (λi x e=>by simp[Su,e])];refine⟨.full (λb o e=>?_) ?_ ?_,bO⟩
 .exact hm.heap b o (λq=>by simp only[TX]at q;subst q;exact absurd (VD e) (Vw _)) (SR _ e)
 .exact hm.os
 intro g;have:=hm.gens;simp only[this];exact g
end
section
variable{G:Gd}{F:Fx}{n:Nat}{ρ:RE}{k:Bool}
def aK.ints:∀{xs:List Int} {vs:List Value},aK G h X (xs.map .int) vs->IntsAre vs xs:=by
 intro l';induction l' with
 |nil=>exact @λvs r=>by rw[aE.mp r];exact .nil
 |cons x xs aU=>exact @λvs r=>by obtain⟨v,u,rfl,hv,hu⟩:=af.mp r;(refine aO (ak.mp hv) λt aB=>?_;clear hv;subst aB);exact .cons _ _ (aU hu)
def aK.strs:∀{xs:List Str} {vs:List Value},aK G h X (xs.map .str) vs->StrsAre vs xs:=by
 intro l';induction l' with
 |nil=>exact @λvs r=>by rw[aE.mp r];exact .nil
 |cons x xs aU=>exact @λvs r=>by obtain⟨v,u,rfl,hv,hu⟩:=af.mp r;(refine aO (aM.mp hv) λt aB=>?_;clear hv;subst aB);exact .cons _ _ (aU hu)
def A7:Mt "list" (Str.ofString "count") "list.count":=⟨SQ,PySem.F.slot_list_count,PySem.F.type_list_count⟩
def A0:Mt "list" (Str.ofString "index") "list.index":=⟨SQ,PySem.F.slot_list_index,PySem.F.type_list_index⟩
def Di:Mt "str" (Str.ofString "join") "str.join":=⟨PySem.F.plainAttrs_str,PySem.F.slot_str_join,PySem.F.type_str_join⟩
def tm:Mt "str" (Str.ofString "lower") "str.lower":=⟨PySem.F.plainAttrs_str,PySem.F.slot_str_lower,PySem.F.type_str_lower⟩
def Ad:Mt "dict" (Str.ofString "get") "dict.get":=⟨PySem.F.plainAttrs_dict,PySem.F.slot_dict_get,PySem.F.type_dict_get⟩
def lE:Mt "dict" (Str.ofString "items") "dict.items":=⟨PySem.F.plainAttrs_dict,PySem.F.slot_dict_items,PySem.F.type_dict_items⟩
def Dq{xs:List Int}:PL G n [.list (xs.map .int),.int x] (λvs=>call (.builtin "list.count") vs) (.int (xs.count x:Nat)):=.two λA s X fK ey R S dK dJ=>by obtain⟨l,vs,rfl,hx,hl,hr⟩:=aA.mp dK;obtain⟨t,rfl⟩:=ak.mp dJ;exact count_list_ints hl.isList hr.ints ⟨.toks,bO⟩
def Bi:∀(xs:List Str) (x:Str) (j:Nat),j<xs.idxOf x->∀(h:j<xs.length),(xs[j]==x)=false:=by
 intro l';induction l' with
 |nil=>exact @λ_ _ _ h=>by simp at h
 |cons y ys aU=>
  exact @λx j cB h=>by
   rw[idxOf_cons]at cB;induction hb:y==x using Bool.casesOn with
   |true=>rw[hb]at cB;simp at cB
   |false=>
    rw[hb]at cB;induction j using Nat.casesAuxOn with
    |zero=>exact hb
    |succ j=>
     have CS:j<idxOf x ys:=by simpa using cB
     exact aU x j CS (by simpa using h)
def Dp{xs:List Str}(hx:x∈xs)(hz:xs.length<2^60):PL G n [.list (xs.map .str),.str x] (λvs=>call (.builtin "list.index") vs) (.int (xs.idxOf x:Nat)):=.two λA s X fK ey R S dK dJ=>by
 obtain⟨l,vs,rfl,hX,⟨m,ho⟩,hr⟩:=aA.mp dK;obtain⟨t,rfl⟩:=aM.mp dJ;have hlen:vs.length=xs.length:=by rw[hr.length];exact US ..
 have hj:xs.idxOf x<xs.length:=idxOf_lt_length_iff.mpr hx;have key:∀(j:Nat) (y:Value),vs[j]? =some y->∃z u,xs[j]? =some z/\y=.str z u:=λj y e=>by
  have hj:j<xs.length:=by have:=(SF.mp e).1;exact T1 this hlen
  refine ao (hr.get (i:=j) (d:=.str xs[j]) (by simp[hj])) λy' e1 e2=>?_;rw[e]at e1;obtain rfl:=Option.some.inj e1;(refine aO (aM.mp e2) λu aB=>?_;clear e2;subst aB);exact sQ _ u (SK hj) rfl
 refine call_meets PySem.F.slot_list_index ⟨_,ho,rfl⟩ PySem.F.entry_list_index (PySem.F.args_list_index_2 _ _)
  (list_indexAt l vs.toArray m none #[] (.str x t) (λy=>strOf y==x) (xs.idxOf x) (by simp only[Ud,hlen];exact hj) (by exact(A2 [.l Va HV,.l Vb Va] (.L ew (.s yP K1))) hz hj) ?_ ?_) ⟨ho,λy hy=>?_,⟨.toks,bO⟩⟩
 .refine d4 (key (xs.idxOf x) (vs.toArray[xs.idxOf x]'(by simp only[Ud,hlen];exact hj)) (by simp[hlen,hj])) λz u e1 e2=>?_;rw[e2];rw[SK hj,getElem_idxOf hj]at e1;obtain rfl:=Option.some.inj e1;exact beq_self_eq_true _
 .intro j OM cB;have Jh:j<xs.length:=by rw[Ud,hlen]at OM;exact OM
  refine d4 (key j (vs.toArray[j]) (by simp)) λz u e1 e2=>?_;rw[e2];rw[SK Jh]at e1;obtain rfl:=Option.some.inj e1;exact Bi _ _ _ cB Jh
 obtain⟨j,hj,e⟩:=Tu.mp (Array.mem_toList_iff.mpr hy);refine d4 (key j y (by rw[<-e];simp at hj⊢)) λz u _ e2=>?_;rw[e2];exact .str_str _ _ _ _
def GU{xs:List Str}(hz:(xs.map (·.length)).sum<=16777216):PL G n [.str ⟨#[]⟩,.list (xs.map .str)] (λvs=>call (.builtin "str.join") vs) (.str (Txt.join ⟨#[]⟩ xs)):=.two λA s X fK ey R S dK dJ=>by obtain⟨t,rfl⟩:=aM.mp dK;obtain⟨l,vs,rfl,hX,hl,hr⟩:=aA.mp dJ;exact join_list hl.isList hr.strs (by show(xs.map (·.length)).sum+xs.length*0<=_;exact(A2 [.e Va kF] (.e (.a Va (.r Vb 0)) kF)) hz) λt' k=>⟨.toks,gH⟩
def wC(hz:Builtin.Str.tooLong (Txt.lower x).length=false):PL G n [.str x] (λvs=>call (.builtin "str.lower") vs) (.str (Txt.lower x)):=.one λA s X v R S r=>by obtain⟨t,rfl⟩:=aM.mp r;exact SC.lower hz ⟨.toks,gH⟩
def GV:PL G n [.cF aH,.str x,d] (λvs=>call (.builtin "dict.get") vs) ((look aH x).getD d):=λA s X vs R S rl=>by
 obtain⟨v,u,rfl,hv,hu⟩:=af.mp rl;(refine bZ (af.mp hu) λv' u' aB pM pN=>?_;clear hu;subst aB);(refine bZ (af.mp pN) λKZ N9 aB xl y0=>?_;clear pN;subst aB);obtain rfl:=aE.mp y0;(refine lB (dC.mp hv) λl ks aB hx lo hl hr=>?_;clear hv;subst aB);(refine aO (aM.mp pM) λt aB=>?_;clear pM;subst aB);refine call_meetsIn PySem.F.slot_dict_get hl.typeIs PySem.F.entry_dict_get (PySem.F.args_dict_get_3 _ _ _) (meets_dict_get_default (PySem.strKind G.prog G.w) l (strKind_is _ _ x t) lo KZ) ⟨_,hl.mapOf,.toks,?_⟩;induction h:look aH x using Option.casesOn with
 |none=>rw[(hr.look x).2 h];exact xl
 |some d'=>refine ao ((hr.look x).1 d' h) λw e1 e2=>?_;rw[e1];exact e2
def GW:PL G n [.aG aH,.int x,d] (λvs=>call (.builtin "dict.get") vs) ((look aH x).getD d):=λA s X vs R S rl=>by
 obtain⟨v,u,rfl,hv,hu⟩:=af.mp rl;(refine bZ (af.mp hu) λv' u' aB pM pN=>?_;clear hu;subst aB);(refine bZ (af.mp pN) λKZ N9 aB xl y0=>?_;clear pN;subst aB);obtain rfl:=aE.mp y0;(refine lB (cj.mp hv) λl ks aB hx lo hl hr=>?_;clear hv;subst aB);(refine aO (ak.mp pM) λt aB=>?_;clear pM;subst aB);refine call_meetsIn PySem.F.slot_dict_get hl.typeIs PySem.F.entry_dict_get (PySem.F.args_dict_get_3 _ _ _) (meets_dict_get_default (intKind G.prog G.w) l (intKind_is _ _ x t) lo KZ) ⟨_,hl.mapOf,.toks,?_⟩;induction h:look aH x using Option.casesOn with
 |none=>rw[(hr.look x).2 h];exact xl
 |some d'=>refine ao ((hr.look x).1 d' h) λw e1 e2=>?_;rw[e1];exact e2
noncomputable def D.isTup:D->Option Bool
 |.tup _=>some true
 |.int _=>some false
 |_=>Option.none
def Ev.isTup{x:Str}(a:Ev G F n ρ true e d)(hd:d.isTup=some b)(h1:Bn G (Str.ofString "isinstance") (.builtin "isinstance"))(h2:Bn G (Str.ofString "tuple") (.type "tuple"))
 (hx:F.env.kindOf (Str.ofString "isinstance")=some .globalImplicit)(hy:F.env.kindOf (Str.ofString "tuple")=some .globalImplicit)
 (he:autoParam (starEach [e,.Name (Str.ofString "tuple") q] F.env=(false,eval e F.env)::starEach [.Name (Str.ofString "tuple") q] F.env) tR)
 (dR:autoParam ((backTo pos (starEach [.Name (Str.ofString "tuple") q] F.env)).any (·.1)=false) tR):
 Ev G F n ρ k (.Call (.Name (Str.ofString "isinstance") p) [e,.Name (Str.ofString "tuple") q] [] pos) (.bool b):=λA s X R S=>by
 refine Call_Name rfl (VY (ld_builtin S hx h1.free h1.here ?_) (by assumption));refine PyProof.Rows.callWith_builtin1 ?_ he dR;refine UK (ay (a A s X R S) (λv aw e1 e2=>?_)) he;refine UK (VY (ld_builtin (S.ext e1) hy h2.free h2.here ?_) (by assumption)) rfl;refine U8 ?_;induction d using D.casesOn with
 |tup ds=>obtain rfl:=Option.some.inj hd;obtain⟨l,vs,rfl,_,⟨o,ho,hc,_⟩,_⟩:=aQ.mp e2;exact IsiPair.tuple_tuple ho hc ⟨e1,dB⟩
 |int i=>obtain rfl:=Option.some.inj hd;obtain⟨t,rfl⟩:=ak.mp e2;exact IsiPair.int_tuple ⟨e1.trans .toks,dB⟩
 |_=>exact cG hd
end
section
variable{G:Gd}{F:Fx}{n:Nat}{ρ:RE}{k:Bool}
noncomputable def eU(G:Gd)(A:Around)(t:Expr)(ds:List D)(s:Shared)(X Z:XS)(it:Value)(au:Shared):Prop:=
 Ext G s au/\∃I wr i0,it=.ref I/\Iter G A t I ds (λa=>Z a\/au.heap.get? a=none) (λa=>X a\/au.heap.get? a=none) wr i0/\i0 0 au.heap/\∀b,wr b->s.heap.get? b=none/\∃o,au.heap.get? b=some o
noncomputable def ze(G:Gd)(n:Nat)(t:Expr)(ds:List D)(tree:List Value->Sem Value)(out:List D):Prop:=
 ∀(A:Around) (s:Shared) (X Z:XS) (vs:List Value),ec A n->Gs G X s.heap->(∀a,Z a->X a)->aK G s.heap X ds vs->wpAny (M G) A (tree vs) (λxv aw=>wpAny (M G) A (pyIter xv) (eU G A t out s X Z) ff aw) ff s
def eU.back(h1:Ext G bg s)(p:eU G A t ds s X X it au):
 Ext G bg au/\∃I wr i0,it=.ref I/\Iter G A t I ds (Cq k X au.heap) (Cq false X au.heap) wr i0/\i0 0 au.heap/\∀b,wr b->bg.heap.get? b=none/\∃o,au.heap.get? b=some o:=by
 refine xV p λh3 I wr i0 e1 e2 e3 e4=>?_;exact yc (h1.trans h3) I wr i0 e1 (e2.sub (λa q=>q.elim (λz=>.inl z.2) .inr) (λa q=>q.elim (λz=>.inl z.2) .inr)) e3 (λb q=>⟨h1.none (e4 b q).1,(e4 b q).2⟩)
def ef.vY(b:Bn G x (.type T))(hx:F.env.kindOf x=some .globalImplicit)(a:b8 G F n ρ false (e::es) ds)(pl:ze G n t ds (λvs=>call (.type T) vs) out)
 (he:autoParam (starEach (e::es) F.env=(false,eval e F.env)::starEach es F.env) tR)
 (dR:autoParam ((backTo pos (starEach es F.env)).any (·.1)=false) tR)
 (h:autoParam ((x==("__debug__":Str))=false) tD):ef G F n ρ k t (.Call (.Name x p) (e::es) [] pos) out:=λA s X R S=>by
 refine Call_Name rfl (VY (ld_builtin S hx b.free b.here ?_) h);refine Ss ?_ he dR;refine ay (a A s X _ R S) (λvs aw h1 h2=>?_);exact VW (pl A aw X X vs R (S.ext h1).gs (λ_ q=>q) h2) (λv au h3=>VW h3 (λ_ _ q=>q.back h1) λ_ _ f=>f) λ_ _ f=>f
def ef.sL{id T:String}{jU:D}{out:List D}(m:Mt T name id)(hT:jU.ty=some T)(a:Ev G F n ρ false o jU)(pl:ze G n t [jU] (λvs=>call (.builtin id) vs) out)
 (jl:autoParam (attributeBase o name F.env (eval o F.env)=eval o F.env) tR)(dH:autoParam ((apos.endLine==pos.line)=true) tR):ef G F n ρ k t (.Call (.Attribute o name apos) [] [] pos) out:=λA s X R S=>
 SY jl (by rfl) dH rfl (ay (a A s X R S) (λov aw h1 h2=>by refine cu (h2.ty hT) λt1 t2=>?_;refine⟨T,id,m.plain,m.slot,m.ty,t1,t2,?_⟩;refine callWith_method0 ?_;exact VW (pl A aw X X [ov] R (S.ext h1).gs (λ_ q=>q) (a0 h2 b6)) (λv au h3=>VW h3 (λ_ _ q=>q.back h1) λ_ _ f=>f) λ_ _ f=>f))
def Gs.none(S:Gs G X h)(e:h.get? b=none):¬X b:=λq=>by refine aO (S.live b q) λo e'=>?_;rw[e]at e';exact cG e'
def b9(h:Heap):h.get? h.objs.size=none:=by
 induction z:h.get? h.objs.size using Option.casesOn with
 |none=>rfl
 |some o=>exact absurd (VD z) (Vw _)
def cz(h:Heap)(ha:h.objs.size<=a):h.get? a=none:=by
 induction z:h.get? a using Option.casesOn with
 |none=>rfl
 |some o=>exact absurd (VD z) (V1.mpr ha)
def eU.walks(S:Gs G X s.heap)(hZ:∀a,Z a->X a)(ex:Ext G s au)
 (W:Walks G.prog G.w A I fp qS ds.length P Sw)(hT:dS T)(F2:∀i h,Sw i h->∃o,h.get? I=some o/\o.cls=.type T)(hI:∀b,b∈qS->b=I)
 (xd:∀b∈fp,(∃o,au.heap.get? b=some o)/\¬X b)(pC:∀b∈qS,s.heap.get? b=none)(hv:∀i d v,ds[i]? =some d->P i v->Rep G s.heap X d v)(Ig:∀i h b o,Sw i h->b∈fp->h.get? b=some o->nv o)(st:Sw 0 au.heap):eU G A t ds s X Z (.ref I) au:=by
 refine⟨ex,I,_,_,rfl,Iter.ofWalks (T:=T) W hT F2 (λb hb q=>?_) hI (λb hb q=>?_) (λb q=>q.imp (hZ b) id) Ig,⟨st,λi d v e1 e2=>?_⟩,λb hb=>⟨pC b hb,(xd b (W.sub b hb)).1⟩⟩
 .rcases q with q|q
  .exact(xd b (W.sub b hb)).2 (hZ b q)
  refine aO ((xd b (W.sub b hb)).1) λo e=>?_;rw[q]at e;exact cG e
 .rcases q with q|q
  .exact(xd b hb).2 (hZ b q)
  refine aO ((xd b hb).1) λo e=>?_;rw[q]at e;exact cG e
 refine Rep.move (λb o n e hb=>⟨ex.keep _ _ n e,λq=>?_⟩) _ _ (hv i d v e1 e2);rcases q with(q|q)|q
 .exact hb q
 .rw[ex.keep _ _ n e]at q;exact yq q
 rw[pC b q]at e;exact cG e
def eU.zR{ID:List (List D)}{P:Nat->Array Value->Prop}{Sw:Nat->Heap->Prop}{MR:Nat->Addr->Heap->Prop}{X Z:XS}{s au:Shared}(S:Gs G X s.heap)(hZ:∀a,Z a->X a)(ex:Ext G s au)
 (W:WalksT G.prog G.w A I fp qS ID.length P Sw MR)
 (xd:∀b∈fp,(∃o,au.heap.get? b=some o)/\¬X b)(pC:∀b∈qS,s.heap.get? b=none)(zD:∀i h,Sw i h->∀b∈qS,∃o,h.get? b=some o)
 (hv:∀i ds v,ID[i]? =some ds->P i v->aK G s.heap X ds v.toList)(Ig:∀i h b o,Sw i h->b∈fp->h.get? b=some o->nv o)(st:Sw 0 au.heap):eU G A (.Tuple ts j tp) (ID.map .tup) s X Z (.ref I) au:=by
 refine⟨ex,I,(λb=>b∈qS),(λi h=>Sw i h/\∀i ds v,ID[i]? =some ds->P i v->aK G h (λa=>(X a\/au.heap.get? a=none)\/a∈qS) ds v.toList),rfl,⟨λb hb q=>?_,λi h h' x hk=>⟨W.frame i h h' x.1 λb hb o e=>hk b o (Ig i h b o x.1 hb e) (λq=>?_) e,λi ds v e1 e2=>?_⟩,λi d s' X' hd x S' hX=>?_,λs' x=>?_,λi s' x=>W.self i s' _ _ x.1 ⟨rfl,rfl⟩⟩,⟨st,λi ds v e1 e2=>?_⟩,λb hb=>⟨pC b hb,(xd b (W.sub b hb)).1⟩⟩
 .rcases q with q|q
  .exact(xd b (W.sub b hb)).2 (hZ b q)
  refine aO ((xd b (W.sub b hb)).1) λo e=>?_;rw[q]at e;exact cG e
 .rcases q with q|q
  .exact(xd b hb).2 (hZ b q)
  refine aO ((xd b hb).1) λo e=>?_;rw[q]at e;exact cG e
 .refine aK.move (λb o n e hb=>⟨hk b o n (λq=>hb (.inl (q.imp (hZ b) id))) e,hb⟩) _ _ (x.2 i ds v e1 e2)
 .rw[Uc]at hd;obtain⟨ds,Fq,rfl⟩:=SS.mp hd;have hi:i<ID.length:=(SF.mp Fq).1;refine W.item i s' _ _ hi x.1 λTa vals h' tk hP hsz ht hm hk=>⟨_,rfl,?_⟩;have r1:aK G h' X' ds vals.toList:=aK.move (λb o _ e hb=>⟨hk b o (λq=>hb (.inr q)) e,λq=>hb ((hX b q).imp id id)⟩) _ _ (x.2 i ds vals Fq hP);refine W.go _ _ _ i Ta {s' with heap:=h',toks:=tk} _ _ hm λIB qU e8=>⟨⟨qU,λi ds v e1 e2=>aK.move (λb o _ e hb=>⟨e8 b o (λq=>hb (.inr q)) (hk b o (λq=>hb (.inr q)) e),hb⟩) _ _ (x.2 i ds v e1 e2)⟩,⟨λb o hb e=>e8 b o hb (hk b o hb e),rfl,id⟩,?_,zD _ _ qU⟩;have Iz:s'.heap.get? Ta=none:=cz _ hsz;have Q7:Ta∉qS:=W.apart _ _ _ hm;refine aQ.mpr ⟨Ta,vals.toList,rfl,S'.none Iz,?_,?_⟩
  .refine ao ht λo ho r=>?_;exact⟨o,e8 Ta o Q7 ho,r⟩
  exact aK.move (λb o _ e hb=>⟨e8 b o (λq=>hb (.inr q)) (hk b o (λq=>hb (.inr q)) e),λq=>hb (hX b q)⟩) _ _ (x.2 i ds vals Fq hP)
 .refine W.done s' _ _ (by have:=x.1;simpa using this) λh' tk hk=>⟨rfl,hk,rfl,id⟩
 refine aK.move (λb o n e hb=>⟨ex.keep _ _ n e,λq=>?_⟩) _ _ (hv i ds v e1 e2);rcases q with(q|q)|q
 .exact hb q
 .rw[ex.keep _ _ n e]at q;exact yq q
 rw[pC b q]at e;exact cG e
noncomputable def cH(a b c:Int):List Int:=(List.range (Builtin.Range.rangeSize a b c).toNat).map λ(i:Nat)=>a+(i:Int)*c
def ir(a b c:Int):0<=Builtin.Range.rangeSize a b c:=by
 unfold Builtin.Range.rangeSize;split
 ·split
  ·have:0<=(b - a - 1)/c:=ediv_nonneg (by lia) (by exact VK ‹_›);exact le_add_one this
  exact VT _
 split
 ·have:0<=(a - b - 1)/(-c):=ediv_nonneg (by lia) (by lia);exact le_add_one this
 exact VT _
def Bg(R:ec A n)(S:Gs G X s.heap)(hZ:∀a,Z a->X a)(ex:Ext G s aw)(hr:IsRange aw.heap r a b c u v w)(hs:Builtin.Range.small a b c=true):
 wpAny (M G) A (pyIter (.ref r)) (eU G A t ((cH a b c).map .int) s X Z) ff aw:=by
 refine wpAny_pyIter_range hr hs ?_;have hn:((cH a b c).map D.int).length=(Builtin.Range.rangeSize a b c).toNat:=by simp[cH]
 have e0:s.heap.get? aw.heap.objs.size=none:=ex.none (b9 _);refine eU.walks (T:="range_iterator") (fp:=[aw.heap.objs.size]) (qS:=[aw.heap.objs.size]) (Sw:=λi h=>IsRangeIter h aw.heap.objs.size (a+(i:Nat)*c) ((((cH a b c).map D.int).length:Int) - (i:Nat)) c) S hZ (ex.trans .push)
  (Walks.range R.handled aw.heap.objs.size a c _) (by unfold dS;rfl) (λi h st=>⟨_,st,rfl⟩) (λb hb=>by simpa using hb) ?_ ?_ ?_ (λi h b o st hb e=>by simp only[TX]at hb;subst hb;rw[show h.get? aw.heap.objs.size=some _ from st]at e;obtain rfl:=Option.some.inj e;exact c9 rfl) ?_
 .intro b hb;simp only[TX]at hb;subst hb;exact⟨⟨_,TG _ rfl⟩,S.none e0⟩
 .intro b hb;simp only[TX]at hb;exact hb▸e0
 .intro i d v hd ⟨t,hv⟩;subst hv;rw[Uc]at hd;obtain⟨x,hx,rfl⟩:=SS.mp hd;have:x=a+(i:Int)*c:=by unfold cH at hx;rw[Uc]at hx;(refine ao (SS.mp hx) λy hy aB=>?_;clear hx;subst aB);rw[TL (by have:=(SF.mp hy).1;simpa using this)]at hy;obtain rfl:=Option.some.inj hy;rfl
  rw[this];exact bO
 refine(?_:IsRangeIter _ _ (a+((0:Nat):Int)*c) _ c);rw[hn];have e:=ir a b c;have e1:a+((0:Nat):Int)*c=a:=by simp
 have e2:((Builtin.Range.rangeSize a b c).toNat:Int) - ((0:Nat):Int)=Builtin.Range.rangeSize a b c:=by exact TJ ‹_›
 rw[e1,e2];exact TG _ rfl
noncomputable def PR(G:Gd)(n:Nat)(ds:List D)(a b c:Int):Prop:=
 ∀(A:Around) (s:Shared) (X:XS) (vs:List Value),ec A n->Gs G X s.heap->aK G s.heap X ds vs->wpAny (M G) A (call (.type "range") vs) (λv s'=>Ext G s s'/\∃r u w x,v=.ref r/\IsRange s'.heap r a b c u w x) ff s
def Ext.zo:Ext G s {s with heap:=s.heap.push o,toks:=t}:=.full (λ_ _ e=>SR o e) rfl id
def pr_1:PR G n [.int b] 0 b 1:=λA s X vs R S rl=>by obtain⟨v,u,rfl,hv,hu⟩:=af.mp rl;obtain rfl:=aE.mp hu;(refine aO (ak.mp hv) λt aB=>?_;clear hv;subst aB);exact call_range_1 ⟨.zo,_,_,_,_,rfl,IsRange.new ..⟩
def pr_2:PR G n [.int a,.int b] a b 1:=λA s X vs R S rl=>by obtain⟨v,u,rfl,hv,hu⟩:=af.mp rl;(refine bZ (af.mp hu) λv' u' aB pM pN=>?_;clear hu;subst aB);obtain rfl:=aE.mp pN;(refine aO (ak.mp hv) λt aB=>?_;clear hv;subst aB);(refine aO (ak.mp pM) λt' aB=>?_;clear pM;subst aB);exact call_range_2 ⟨.zo,_,_,_,_,rfl,IsRange.new ..⟩
def pr_3(hc:c≠0)(hs:c.natAbs<1073741824):PR G n [.int a,.int b,.int c] a b c:=λA s X vs R S rl=>by obtain⟨v,u,rfl,hv,hu⟩:=af.mp rl;(refine bZ (af.mp hu) λv' u' aB pM pN=>?_;clear hu;subst aB);(refine bZ (af.mp pN) λKZ N9 aB xl y0=>?_;clear pN;subst aB);obtain rfl:=aE.mp y0;(refine aO (ak.mp hv) λt aB=>?_;clear hv;subst aB);(refine aO (ak.mp pM) λt' aB=>?_;clear pM;subst aB);(refine aO (ak.mp xl) λRQ aB=>?_;clear xl;subst aB);exact call_range_3 hc ⟨.zo,_,_,_,_,rfl,IsRange.new ..⟩ (.inl (PyProof.noPylong_small hs))
def ef.range(bn:Bn G (Str.ofString "range") (.type "range"))(hx:F.env.kindOf (Str.ofString "range")=some .globalImplicit)(ar:b8 G F n ρ false (e::es) ds)(pr:PR G n ds a b c)(hs:Builtin.Range.small a b c=true)
 (ho:(cH a b c).map D.int=out)
 (he:autoParam (starEach (e::es) F.env=(false,eval e F.env)::starEach es F.env) tR)
 (dR:autoParam ((backTo pos (starEach es F.env)).any (·.1)=false) tR):ef G F n ρ k t (.Call (.Name (Str.ofString "range") p) (e::es) [] pos) out:=
 ho▸ef.vY (ds:=ds) bn hx ar (λA s X Z vs R S hZ rl=>VW (pr A s X vs R S rl) (λv aw ⟨h1,r,u,w,x,h2,h3⟩=>by subst h2;exact Bg R S hZ h1 h3 hs) λ_ _ f=>f) he dR (by rfl)
def mB.qA(bl:Bn G (Str.ofString "list") (.type "list"))(bn:Bn G (Str.ofString "range") (.type "range"))
 (hl:F.env.kindOf (Str.ofString "list")=some .globalImplicit)(hx:F.env.kindOf (Str.ofString "range")=some .globalImplicit)
 (ar:b8 G F n ρ false (e::es) ds)(pr:PR G n ds a b c)(hs:Builtin.Range.small a b c=true)(hz:(Builtin.Range.rangeSize a b c).toNat<=2^24)(ho:(cH a b c).map D.int=out)
 (he:autoParam (starEach (e::es) F.env=(false,eval e F.env)::starEach es F.env) tR)
 (dR:autoParam ((backTo pos (starEach es F.env)).any (·.1)=false) tR)
 (Fp:autoParam (starEach [.Call (.Name (Str.ofString "range") p) (e::es) [] pos] F.env=(false,eval (.Call (.Name (Str.ofString "range") p) (e::es) [] pos) F.env)::starEach [] F.env) tR)
 (rI:autoParam ((backTo pos' (starEach [] F.env)).any (·.1)=false) tR):
 mB G F n ρ (.Call (.Name (Str.ofString "list") p') [.Call (.Name (Str.ofString "range") p) (e::es) [] pos] [] pos') (.list out):=λA s X R S=>by
 refine Call_Name rfl (VY (ld_builtin S hl bl.free bl.here ?_) (by assumption));refine Ss ?_ Fp rI;refine UK ?_ Fp;refine Call_Name rfl (VY (ld_builtin S hx bn.free bn.here ?_) (by assumption));refine Ss ?_ he dR;refine ay (ar A s X _ R S) (λvs aw h1 h2=>?_);refine VW (pr A aw _ vs R (S.ext h1).ph h2) (λv au ⟨h3,r,u,w,x,h4,h5⟩=>?_) λ_ _ f=>f;subst h4;refine U8 ?_;refine call_list_range R.handled h5 hs (n:=(Builtin.Range.rangeSize a b c).toNat) (by have:=ir a b c;exact(TJ ‹_›).symm) hz λh' tk acc c' hk hS hi=>?_;have ex:Ext G s {au with heap:=h',toks:=tk}:=(h1.trans h3).trans (.jI hk);refine Aj ex _ rfl ((h1.trans h3).none (b9 _)) ⟨acc.toList,⟨c',hS⟩,?_⟩;subst ho;refine aK.n7 ?_ λi d v e1 e2=>?_
 .simp[cH,hi.1]
 rw[Uc]at e1;obtain⟨y,hy,rfl⟩:=SS.mp e1;refine Od v (hi.2 i v (by simpa using e2)) λt=>?_;have:y=a+(i:Int)*c:=by unfold cH at hy;rw[Uc]at hy;(refine ao (SS.mp hy) λz hz aB=>?_;clear hy;subst aB);rw[TL (by have:=(SF.mp hz).1;simpa using this)]at hz;obtain rfl:=Option.some.inj hz;rfl
 rw[this];exact bO
noncomputable def iC(x:Str):List D:=x.cps.toList.map λc=>.str ⟨#[c]⟩
def wm:HW G n t (.str x) (iC x):=λA s X Z v R S hZ r=>by
 obtain⟨u,rfl⟩:=aM.mp r;induction ha:x.cps.all (·<128)using Bool.casesOn with
 |true=>
  refine wpAny_pyIter_ascii ha ?_;refine eU.walks (T:="str_ascii_iterator") (P:=SignAt x) (fp:=[s.heap.objs.size]) (qS:=[s.heap.objs.size]) (Sw:=λi h=>h.IsStrIter s.heap.objs.size "str_ascii_iterator" x u i) S hZ .push (by
   have e:(iC x).length=x.cps.size:=by exact US ..
   rw[e];exact Walks.strAscii R.handled _ x u) (by unfold dS;rfl) (λi h H4=>bq H4 λo ho hc _=>⟨o,ho,hc⟩) (λb hb=>by simpa using hb) ?_ ?_ ?_ (λi h b o st hb e=>by
   simp only[TX]at hb;subst hb;exact jk st e) ⟨_,TG _ rfl,rfl,rfl⟩
  .intro b hb;simp only[TX]at hb;subst hb;exact⟨⟨_,TG _ rfl⟩,S.fresh⟩
  .intro b hb;simp only[TX]at hb;exact hb▸b9 _
  intro i d v hd ⟨c,t,hc,hv⟩;subst hv;unfold iC at hd;rw[Uc,Array.getElem?_toList,hc]at hd;obtain rfl:=Option.some.inj hd;exact gH
 |false=>
  refine wpAny_pyIter_wide ha ?_;refine eU.walks (T:="str_iterator") (P:=SignAt x) (fp:=[s.heap.objs.size]) (qS:=[s.heap.objs.size]) (Sw:=λi h=>h.IsStrIter s.heap.objs.size "str_iterator" x u i) S hZ .push (by
   have e:(iC x).length=x.cps.size:=by exact US ..
   rw[e];exact Walks.strWide R.handled _ x u) (by unfold dS;rfl) (λi h PD=>bq PD λo ho hc _=>⟨o,ho,hc⟩) (λb hb=>by simpa using hb) ?_ ?_ ?_ (λi h b o st hb e=>by
   simp only[TX]at hb;subst hb;exact jk st e) ⟨_,TG _ rfl,rfl,rfl⟩
  .intro b hb;simp only[TX]at hb;subst hb;exact⟨⟨_,TG _ rfl⟩,S.fresh⟩
  .intro b hb;simp only[TX]at hb;exact hb▸b9 _
  intro i d v hd ⟨c,t,hc,hv⟩;subst hv;unfold iC at hd;rw[Uc,Array.getElem?_toList,hc]at hd;obtain rfl:=Option.some.inj hd;exact gH
def mw{K:Type}[DecidableEq K]{knd:PySem.KeyKind G.prog G.w K}{h:Heap}{d:Addr}{aH:List (K×Value)}(x:h.DictOf knd d aH):∃ep,h.DictAt knd d aH ep:=by refine cQ x λo es ep ho hc hd r=>?_;exact⟨ep,o,es,ho,hc,hd,r⟩
def cT.length:∀{ds:List (Int×D)} {vs:List (Int×Value)},cT G h X ds vs->vs.length=ds.length:=by
 intro l';induction l' with
 |nil=>exact @λ_ x=>by rw[eX.mp x];rfl
 |cons y' HX aU=>obtain⟨_,_⟩:=y';exact @λ_ x=>by obtain⟨v,r,rfl,_,hr⟩:=cL.mp x;simp[aU hr]
theorem cT.get{h:Heap}{X:XS}:∀{ds:List (Int×D)} {vs:List (Int×Value)} {i:Nat} {k:Int} {d:D},cT G h X ds vs->ds[i]? =some (k,d)->∃v,vs[i]? =some (k,v)/\Rep G h X d v
 |[],_,_,_,_,_,e=>by trivial
 |(_,_)::_,_,0,_,_,x,e=>by obtain⟨v,r,rfl,hv,_⟩:=cL.mp x;simp at e;obtain⟨rfl,rfl⟩:=e;exact bH v rfl hv
 |(_,_)::_,_,i+1,_,_,x,e=>by obtain⟨v,r,rfl,_,hr⟩:=cL.mp x;simp at e;exact cT.get (i:=i) hr e
def dN.length{h:Heap}{X:XS}:∀{ds:List (Str×D)} {vs:List (Str×Value)},dN G h X ds vs->vs.length=ds.length:=by
 intro l';induction l' with
 |nil=>exact @λ_ x=>by rw[dZ.mp x];rfl
 |cons y' HX aU=>obtain⟨_,_⟩:=y';exact @λ_ x=>by obtain⟨v,r,rfl,_,hr⟩:=dc.mp x;simp[aU hr]
def xO{t:Expr}{aH:List (Int×D)}:HW G n t (.aG aH) (aH.map λkv=>.int kv.1):=λA s X Z v R S hZ r=>by
 obtain⟨l,ks,rfl,hx,lo,hl,hr⟩:=cj.mp r;refine aO (mw hl) λep ha=>?_;have cB:l<s.heap.objs.size:=ha.lt_size;refine wpAny_pyIter_dict lo ha ?_;have e:(aH.map λkv=>D.int kv.1).length=ks.length:=by rw[hr.length];exact US ..
 refine eU.walks (T:="dict_keyiterator") (P:=λi v=>∃k x,ks[i]? =some (k,x)/\(intKind G.prog G.w).is k v=true) (fp:=[s.heap.objs.size,l]) (qS:=[s.heap.objs.size]) (Sw:=λi h=>h.IsKeyIter s.heap.objs.size l i ks.length ep/\h.DictAt (intKind G.prog G.w) l ks ep) S hZ .push (by
  rw[e];exact Walks.dictKeys R.handled _ l (VL cB) ks ep) (by unfold dS;rfl) (λi h L6=>cu L6 λaB _=>let⟨o,ho,hc,_⟩:=aB;⟨o,ho,hc⟩) (λb hb=>by simpa using hb) ?_ ?_ ?_ (λi h b o st hb e=>by
  revert b;refine mA ?_ (mA ?_ mN)
  .intro e;exact jk st.1 e
  .intro e;refine dw st.2 λo' es e' _ d _=>?_;rw[e]at e';obtain rfl:=Option.some.inj e';exact fY d) ⟨⟨_,TG _ rfl,rfl,rfl⟩,ha.push _⟩
 .intro b hb;revert b;refine mA ?_ (mA ?_ mN)
  .exact⟨⟨_,TG _ rfl⟩,S.fresh⟩
  refine eR hl λo _ _ ho _=>?_;exact⟨⟨o,SR _ ho⟩,hx⟩
 .intro b hb;simp only[TX]at hb;exact hb▸b9 _
 intro i d v hd ⟨k,x,hk,hv⟩;rw[Uc]at hd;obtain⟨⟨k',d'⟩,h1,rfl⟩:=SS.mp hd;refine ao (hr.get h1) λu h2 _=>?_;rw[hk]at h2;cases h2;refine Od v (Value.isInt_shape hv) λt=>?_;exact bO
end
section
variable{G:Gd}{F:Fx}{n:Nat}{ρ:RE}{k:Bool}
def DictAt.b4{M:Type}[DecidableEq M]{kd:PySem.KeyKind prog w M}{h h':Heap}{vs:List (M×Value)}{ep:Nat}(x:h.DictAt kd a vs ep)(k:∀o,nv o->h.get? a=some o->h'.get? a=some o):h'.DictAt kd a vs ep:=by refine dw x λo es e c d r=>?_;exact⟨o,es,k o (fY d) e,c,d,r⟩
noncomputable def dv(aH:List (Int×D)):List D:=aH.map λkv=>.tup [.int kv.1,kv.2]
def Bh{tp:Pos}{aH:List (Int×D)}:ze G n (.Tuple ts j tp) [.aG aH] (λvs=>call (.builtin "dict.items") vs) (dv aH):=λA s X Z vs R S hZ rl=>by
 obtain⟨v,u,rfl,hv,hu⟩:=af.mp rl;obtain rfl:=aE.mp hu;(refine lB (cj.mp hv) λl ks aB hx lo hl hr=>?_;clear hv;subst aB);refine call_meetsIn PySem.F.slot_dict_items hl.typeIs PySem.F.entry_dict_items (PySem.F.args_dict_items_1 _) (meets_dict_items (intKind G.prog G.w) l lo) ⟨⟨_,hl⟩,?_⟩;refine aO (mw hl) λep ha=>?_;refine wpAny_pyIter_items (s:={s with heap:=s.heap.push {cls:=.type "dict_items",data:=.fields #[.ref l]}}) ⟨_,TG _ rfl,rfl,rfl⟩ (ha.push _) ?_;generalize hI:(s.heap.push {cls:=.type "dict_items",data:=.fields #[.ref l]}).objs.size=I;revert I;refine nz ?_;intro I;intro;have hIn:s.heap.get? I=none:=by rw[<-hI];exact cz _ (by rw[Vl];exact VS _)
 have OG:l≠I:=λe=>by rw[<-e]at hIn;refine eR hl λo _ _ ho _=>?_;rw[hIn]at ho;exact cG ho
 have ex:Ext G s {s with heap:=(s.heap.push {cls:=.type "dict_items",data:=.fields #[.ref l]}).push {cls:=.type "dict_itemiterator",data:=.fields #[.none,.bool false,.ref l,.int 0 0,.int ks.length 0,.int ep 0,.none,.none]}}:=Ext.push.trans .push;have hlen:(dv aH).length=ks.length:=by rw[hr.length];exact US ..
 refine⟨ex,I,(λb=>b=I),(λi h=>(∃ok ov,IsItemIter h I l i ks.length ep ok ov)/\h.DictAt (intKind G.prog G.w) l ks ep/\cT G h (λa=>(X a\/((s.heap.push {cls:=.type "dict_items",data:=.fields #[.ref l]}).push {cls:=.type "dict_itemiterator",data:=.fields #[.none,.bool false,.ref l,.int 0 0,.int ks.length 0,.int ep 0,.none,.none]}).get? a=none)\/a=I) aH ks),rfl,⟨λb hb q=>?_,λi h h' x hk=>?_,λi d s' X' hd x S' hX=>?_,λs' x=>?_,λi s' x=>?_⟩,⟨⟨.none,.none,?_⟩,(ha.push _).push _,?_⟩,λb hb=>⟨hb▸hIn,?_⟩⟩
 .subst hb;rcases q with q|q
  .exact S.none hIn (hZ _ q)
  rw[<-hI,TG _ rfl]at q;exact yq q
 ·(refine dW x λaB h2 h3=>?_;refine iw aB λok ov h1=>?_);refine⟨⟨ok,ov,hk I _ (c9 rfl) (λq=>?_) h1⟩,DictAt.b4 h2 λo n e=>hk l o n (λq=>?_) e,cT.move (λb o n e hb=>⟨hk b o n (λq=>hb (.inl (q.imp (hZ b) id))) e,hb⟩) _ _ h3⟩
  .rcases q with q|q
   .exact S.none hIn (hZ _ q)
   rw[<-hI,TG _ rfl]at q;exact yq q
  rcases q with q|q
  .exact hx (hZ _ q)
  refine eR hl λo _ _ ho _=>?_;refine aO (ex.there _ _ ho) λo' e'=>?_;rw[show _=none from q]at e';exact cG e'
 ·(refine dW x λaB h2 h3=>?_;refine iw aB λok ov h1=>?_);unfold dv at hd;rw[Uc]at hd;obtain⟨⟨ki,di⟩,QS,rfl⟩:=SS.mp hd;refine ao (h3.get QS) λv Mh Mg=>?_;refine wpAny_pyNext_items_item h1 h2 Mh λkey h' Jg hit ht hsz hk=>⟨_,rfl,?_⟩;refine wpAny_letOwnedTupleGo_items (s:={s' with heap:=h'}) hit λIB Jj cb=>⟨⟨⟨_,_,Jj⟩,(h2.at' λo e=>hk l o OG e).at' λo e=>(cb.2 l OG).trans e,?_⟩,⟨λb o hb e=>(cb.2 b hb).trans (hk b o hb e),rfl,id⟩,?_,λb hb=>hb▸⟨_,Jj⟩⟩
  .exact cT.move (λb o _ e hb=>⟨(cb.2 b λq=>hb (.inr q)).trans (hk b o (λq=>hb (.inr q)) e),hb⟩) _ _ h3
  have Iz:s'.heap.get? s'.heap.objs.size=none:=b9 _;have MI:s'.heap.objs.size≠I:=λq=>by rw[q,h1]at Iz;exact yq Iz
  (refine aO (Value.isInt_shape Jg) λt aB=>?_;clear Jg;subst aB);refine aQ.mpr ⟨_,[.int ki t,v],rfl,S'.none Iz,⟨_,(cb.2 _ MI).trans ht,rfl,0,rfl⟩,a0 bO (a0 ?_ b6)⟩;exact Rep.move (λb o _ e hb=>⟨(cb.2 b λq=>hb (.inr q)).trans (hk b o (λq=>hb (.inr q)) e),λq=>hb (hX b q)⟩) _ _ Mg
 ·(refine dW x λaB h2 h3=>?_;refine iw aB λok ov h1=>?_);rw[hlen]at h1;exact wpAny_pyNext_items_end R.handled h1 h2 (Tg (VP _)) λh' hk=>⟨rfl,λb o hb e=>hk b o hb e,rfl,id⟩
 ·(refine dW x λaB h2 h3=>?_;refine iw aB λok ov h1=>?_);exact kcp_self h1 ⟨rfl,rfl⟩
 .rw[<-hI];exact TG _ rfl
 .refine cT.move (λb o n e hb=>⟨ex.keep _ _ n e,λq=>?_⟩) _ _ hr;rcases q with(q|q)|q
  .exact hb q
  .rw[ex.keep _ _ n e]at q;exact yq q
  rw[q,hIn]at e;exact cG e
 subst hb;rw[<-hI];exact⟨_,TG _ rfl⟩
def Ev.listItems(bl:Bn G (Str.ofString "list") (.type "list"))(hl:F.env.kindOf (Str.ofString "list")=some .globalImplicit)(a:Ev G F n ρ k o (.aG aH))(hz:aH.length<=sizeLine)
 (jl:autoParam (attributeBase o (Str.ofString "items") F.env (eval o F.env)=eval o F.env) tR)(dH:autoParam ((apos.endLine==pos.line)=true) tR)
 (Fp:autoParam (starEach [.Call (.Attribute o (Str.ofString "items") apos) [] [] pos] F.env=(false,eval (.Call (.Attribute o (Str.ofString "items") apos) [] [] pos) F.env)::starEach [] F.env) tR)
 (rI:autoParam ((backTo pos' (starEach [] F.env)).any (·.1)=false) tR):
 Ev G F n ρ k (.Call (.Name (Str.ofString "list") p) [.Call (.Attribute o (Str.ofString "items") apos) [] [] pos] [] pos') (.list (dv aH)):=λA s X R S=>by
 refine Call_Name rfl (VY (ld_builtin S hl bl.free bl.here ?_) (by assumption));refine Ss ?_ Fp rI;refine UK ?_ Fp;refine SY jl (by rfl) dH rfl (ay (a A s X R S) (λov aw h1 h2=>?_));obtain⟨l,ks,rfl,hx,lo,hd,hr⟩:=cj.mp h2;refine cu (h2.ty rfl) λt1 t2=>?_;refine⟨_,_,lE.plain,lE.slot,lE.ty,t1,t2,callWith_method0 ?_⟩;refine call_meetsIn PySem.F.slot_dict_items hd.typeIs PySem.F.entry_dict_items (PySem.F.args_dict_items_1 _) (meets_dict_items (intKind G.prog G.w) l lo) ⟨⟨_,hd⟩,?_⟩;refine U8 ?_;refine aO (mw hd) λep ha=>?_;refine kdx_call (knd:=intKind G.prog G.w) (s:={aw with heap:=aw.heap.push {cls:=.type "dict_items",data:=.fields #[.ref l]}}) R.handled ⟨_,TG _ rfl,rfl,rfl⟩ (ha.push _) (by rw[hr.length];exact hz) λh' tk acc c as hk hS OY hG sA=>?_;have Pa:Ext G aw {aw with heap:=h',toks:=tk}:=.jI λb o e=>hk b o (SR _ e);have Sk:=S.ph (k:=k);have S1:Gs G (F.lk k X) aw.heap:=(S.ext h1).ph;refine⟨h1.trans Pa,aA.mpr ⟨_,acc.toList,rfl,S1.none (cz _ (by rw[Vl];exact VS _)),⟨c,hS⟩,?_⟩⟩;rw[sA];refine aK.n7 (by simp[dv,OY,hr.length]) λi d v e1 e2=>?_;unfold dv at e1;rw[Uc]at e1 e2;obtain⟨⟨ki,di⟩,g1,rfl⟩:=SS.mp e1;obtain⟨ai,g2,rfl⟩:=SS.mp e2;refine fq (hG.pairs i ai g2) λkey RV x f1 f2 f3=>?_;refine ao (hr.get g1) λx' f4 f5=>?_;rw[f1]at f4;cases f4;(refine aO (Value.isInt_shape f2) λt aB=>?_;clear f2;subst aB);have Q4:aw.heap.get? ai=none:=cz _ (by have h7:(aw.heap.push {cls:=.type "dict_items",data:=.fields #[.ref l]}).objs.size<ai:=hG.above ai (To g2);rw[Vl]at h7;exact VE (lt_of_succ_lt h7));exact aQ.mpr ⟨ai,[.int ki t,x],rfl,S1.none Q4,⟨_,f3,rfl,0,rfl⟩,a0 bO (a0 (Pa.rep f5) b6)⟩
noncomputable def uz(xs ys:List D):List (List D):=(xs.zip ys).map λp=>[p.1,p.2]
def G0:ze G n (.Tuple ts j tp) [.list xs,.list ys] (λvs=>call (.type "zip") vs) ((uz xs ys).map .tup):=λA s X Z vs R S hZ rl=>by
 obtain⟨v,u,rfl,hv,hu⟩:=af.mp rl;(refine bZ (af.mp hu) λv' u' aB pM pN=>?_;clear hu;subst aB);obtain rfl:=aE.mp pN;(refine dw (aA.mp hv) λl1 us aB Me qV BS=>?_;clear hv;subst aB);(refine dw (aA.mp pM) λl2 ws aB Qe o8 w7=>?_;clear pM;subst aB);have Fe:l1<s.heap.objs.size:=aO qV λ_ e=>VD e;have Lh:l2<s.heap.objs.size:=aO o8 λ_ e=>VD e;refine call_zip_2 qV.isList o8.isList λh' z1 z2 z3 z4 z5 z6 hk=>?_;refine wpAny_pyIter_zip z1 ?_;have hlen:(uz xs ys).length=min us.toArray.size ws.toArray.size:=by simp[uz,BS.length,w7.length]
 have W:=WalksT.zip2 (prog:=G.prog) (w:=G.w) R.handled (s.heap.objs.size+4) (s.heap.objs.size+2) (s.heap.objs.size+3) s.heap.objs.size (s.heap.objs.size+1) l1 l2 (zipApart_new Fe Lh) us.toArray ws.toArray;rw[<-hlen]at W;refine eU.zR S hZ (.jI hk) W ?_ ?_ ?_ ?_ (λi h b o st hb e=>by
  (refine oz st λy1 y2 aB y4 y5 y6 y7=>?_;refine iw aB λ_ _ y3=>?_);revert b;refine mA ?_ (mA ?_ (mA ?_ (mA ?_ (mA ?_ (mA ?_ (mA ?_ mN))))))
  .intro e;rw[show h.get? _=some _ from y1]at e;obtain rfl:=Option.some.inj e;exact c9 rfl
  .intro e;rw[show h.get? _=some _ from y2]at e;obtain rfl:=Option.some.inj e;exact c9 rfl
  .intro e;rw[show h.get? _=some _ from y3]at e;obtain rfl:=Option.some.inj e;exact c9 rfl
  .intro e;exact jk y4 e
  .intro e;exact jk y5 e
  .intro e;exact jk y6 e
  .intro e;exact jk y7 e) ⟨z1,z2,⟨_,_,z3⟩,z4,z5,(qV.at λo e=>hk _ o e).isList,(o8.at λo e=>hk _ o e).isList⟩
 .intro b hb;revert b;refine mA ?_ (mA ?_ (mA ?_ (mA ?_ (mA ?_ (mA ?_ (mA ?_ mN))))))
  .exact⟨⟨_,z1⟩,S.none (cz _ (UB _ _))⟩
  .exact⟨⟨_,z2⟩,S.none (cz _ (UB _ _))⟩
  .exact⟨⟨_,z3⟩,S.none (cz _ (UB _ _))⟩
  .exact⟨ao z4 λo e _=>⟨o,e⟩,S.none (cz _ (VP _))⟩
  .exact⟨ao z5 λo e _=>⟨o,e⟩,S.none (cz _ (UB _ _))⟩
  .exact⟨aO qV λ_ e=>⟨_,hk _ _ e⟩,Me⟩
  exact⟨aO o8 λ_ e=>⟨_,hk _ _ e⟩,Qe⟩
 .intro b hb;revert b;refine mA ?_ (mA ?_ (mA ?_ (mA ?_ mN)))<;>exact cz _ (by lia)
 .intro i h bx b hb;(refine Dd bx λy1 y2 aB DU PB _=>?_;refine iw aB λ_ _ y3=>?_;refine ao DU λo4 y4 _=>?_;refine ao PB λo5 y5 _=>?_);revert b;refine mA ?_ (mA ?_ (mA ?_ (mA ?_ mN)))
  .exact⟨_,y1⟩
  .exact⟨_,y3⟩
  .exact⟨_,y4⟩
  exact⟨_,y5⟩
 intro i ds v hd bx;obtain⟨x,y,e1,e2,rfl⟩:=bx;unfold uz at hd;rw[Uc]at hd;obtain⟨⟨d1,d2⟩,h1,rfl⟩:=SS.mp hd;refine cu (SI.mp h1) λg1 g2=>?_;refine ao (BS.get g1) λx' a1 a2=>?_;refine ao (w7.get g2) λy' b1 b2=>?_;simp at e1 e2;rw[a1]at e1;obtain rfl:=Option.some.inj e1;rw[b1]at e2;obtain rfl:=Option.some.inj e2;exact a0 a2 (a0 b2 b6)
noncomputable def nV(xs:List D):List (List D):=(List.range xs.length).zip xs|>.map λp=>[.int (p.1:Nat),p.2]
def Ds:ze G n (.Tuple ts j tp) [.list xs] (λvs=>call (.type "enumerate") vs) ((nV xs).map .tup):=λA s X Z vs R S hZ rl=>by
 obtain⟨v,u,rfl,hv,hu⟩:=af.mp rl;obtain rfl:=aE.mp hu;(refine dw (aA.mp hv) λl1 us aB Me qV BS=>?_;clear hv;subst aB);have Fe:l1<s.heap.objs.size:=aO qV λ_ e=>VD e;refine call_enumerate_list qV.isList λh' z1 z2 z6 hk=>?_;refine wpAny_pyIter_enum z1 ?_;have hlen:(nV xs).length=us.toArray.size:=by simp[nV,BS.length]
 have W:=WalksT.enumerate (prog:=G.prog) (w:=G.w) R.handled (s.heap.objs.size+1) s.heap.objs.size l1 (succ_ne_self _) (VL (Uj Fe)) (VL Fe) us.toArray;rw[<-hlen]at W;refine eU.zR S hZ (.jI hk) W ?_ ?_ ?_ ?_ (λi h b o st hb e=>by
  (refine dW st λaB y2 y3=>?_;refine aO aB λ_ y1=>?_);revert b;refine mA ?_ (mA ?_ (mA ?_ mN))
  .intro e;rw[show h.get? _=some _ from y1]at e;obtain rfl:=Option.some.inj e;exact c9 rfl
  .intro e;exact jk y2 e
  .intro e;exact jk y3 e) ⟨⟨_,z1⟩,z2,(qV.at λo e=>hk _ o e).isList⟩
 .intro b hb;revert b;refine mA ?_ (mA ?_ (mA ?_ mN))
  .exact⟨⟨_,z1⟩,S.none (cz _ (UB _ _))⟩
  .exact⟨ao z2 λo e _=>⟨o,e⟩,S.none (cz _ (VP _))⟩
  exact⟨aO qV λ_ e=>⟨_,hk _ _ e⟩,Me⟩
 .intro b hb;revert b;refine mA ?_ (mA ?_ mN)<;>exact cz _ (by lia)
 .intro i h bx b hb;(refine dW bx λaB DU _=>?_;refine aO aB λ_ y1=>?_;refine ao DU λo2 y2 _=>?_);revert b;refine mA ?_ (mA ?_ mN)
  .exact⟨_,y1⟩
  exact⟨_,y2⟩
 intro i ds v hd bx;obtain⟨t,x,e1,rfl⟩:=bx;unfold nV at hd;rw[Uc]at hd;obtain⟨⟨d1,d2⟩,h1,rfl⟩:=SS.mp hd;refine cu (SI.mp h1) λg1 g2=>?_;refine ao (BS.get g2) λx' a1 a2=>?_;simp at e1;rw[a1]at e1;obtain rfl:=Option.some.inj e1;rw[TL (by have:=(SF.mp g1).1;simpa using this)]at g1;obtain rfl:=Option.some.inj g1;exact a0 bO (a0 a2 b6)
end
section
open PySem PySem.W PyProof.Rows
noncomputable def good{α:Type}(b:Nat->Nat->Bool)(n:Nat)(P:α->Prop):KasT α->Prop
 |.ret a=>P a
 |.ask i j k=>i<n/\j<n/\i≠j/\good b n P (k (b i j))
theorem gh{α β:Type}{P:β->Prop}{f:α->KasT β}:∀{t:KasT α},good b n (λa=>good b n P (f a)) t->good b n P (t.bind f)
 |.ret a,h=>h
 |.ask i j k,h=>⟨h.1,h.2.1,h.2.2.1,gh h.2.2.2⟩
theorem good_mono{α:Type}{P Q:α->Prop}(h:∀a,P a->Q a):∀{t:KasT α},good b n P t->good b n Q t
 |.ret a,x=>h a x
 |.ask i j k,x=>⟨x.1,x.2.1,x.2.2.1,good_mono h x.2.2.2⟩
theorem wJ{α:Type}{P:α->Prop}{Inv:Shared->Prop}{Q:α->Shared->Prop}
 (hc:∀i j C s,i<n->j<n->i≠j->Inv s->(∀s',Inv s'->C (b i j) s')->cmp i j C s)(hQ:∀a s,Inv s->P a->Q a s):∀(t:KasT α) (s:Shared),Inv s->good b n P t->t.kasWp cmp Q s
 |.ret a,s,hi,h=>hQ a s hi h
 |.ask i j k,s,hi,h=>hc i j _ s h.1 h.2.1 h.2.2.1 hi λs' Ip=>wJ hc hQ _ s' Ip h.2.2.2
section
variable{n:Nat}{r:Nat->Int}
structure eM(n:Nat)(p:Array Nat):Prop where
 perm:p.toList.Perm (List.range n)
def eM.size(h:eM n p):p.size=n:=by have:=h.perm.length_eq;simpa using this
def eM.lt(h:eM n p)(hi:i<n):p.getD i 0<n:=by
 have hs:=h.size;have:p.getD i 0=p[i]:=by simp[Array.getD,show i<p.size by exact T1 hi (V7 hs)]
 rw[this];have hm:p[i]∈p.toList:=by simp
 exact Vm.mp (h.perm.mem_iff.mp hm)
def eM.ne(h:eM n p)(hi:i<n)(hj:j<n)(qW:i≠j):p.getD i 0≠p.getD j 0:=by
 have hs:=h.size;have hn:p.toList.Nodup:=h.perm.nodup_iff.mpr nodup_range;have e1:p.getD i 0=p.toList[i]'(by simpa using(show i<p.size by exact T1 hi (V7 hs))):=by simp[Array.getD,show i<p.size by exact T1 hi (V7 hs)]
 have e2:p.getD j 0=p.toList[j]'(by simpa using(show j<p.size by exact T1 hj (V7 hs))):=by simp[Array.getD,show j<p.size by exact T1 hj (V7 hs)]
 simp only[e1,e2];exact λq=>qW ((getElem_inj hn).mp q)
def eM.rev(h:eM n p)(i j:Nat):eM n (kas_rev p i j):=⟨(Array.perm_iff_toList_perm.mp (mirror_perm p i j _)).trans h.perm⟩
def eM.Rx(h:eM n p)(i j:Nat):eM n (bubble p i j):=⟨(Array.perm_iff_toList_perm.mp (bubble_perm p i j)).trans h.perm⟩
def km(p:Array Nat)(i:Nat):p.getD i 0=(p[i]?).getD 0:=by simp[Array.getD];split<;>simp_all
noncomputable def rk(r:Nat->Int)(p:Array Nat)(i:Nat):Int:=r (p.getD i 0)
def uL(hj:j<=p.size)(k:Nat):rk r (kas_rev p i j) k=if i<=k/\k<j then rk r p (i+j - 1 - k)else rk r p k:=by unfold rk;simp only[km,km,km,kas_rev,getElem?_mirror_all hj];split<;>rfl
def z8(hs:src<p.size)(hd:d<=src)(k:Nat):rk r (bubble p src d) k=if k=src - d then rk r p src else if src - d<k/\k<=src then rk r p (k - 1)else rk r p k:=by
 unfold rk;rw[km,km,km,km,getElem?_bubble hs d hd];split
 ·rfl
 split<;>rfl
noncomputable abbrev ord(r:Nat->Int):Nat->Nat->Bool:=λi j=>decide (r i<r j)
noncomputable def Up(r:Nat->Int)(p:Array Nat)(k:Nat):Prop:=∀i,1<=i->i<k->rk r p (i - 1)<=rk r p i
noncomputable def Down(r:Nat->Int)(p:Array Nat)(k:Nat):Prop:=∀i,1<=i->i<k->rk r p i<=rk r p (i - 1)
def Up.le(h:Up r p k):∀(d i:Nat),i+d<k->rk r p i<=rk r p (i+d):=by
 intro l';induction l' with
 |zero=>exact @λi _=>VT _
 |succ d aU=>exact @λi hd=>Int.le_trans (aU i (VE ‹_›)) (h (i+(d+1)) (VC _) hd)
def Up.H8(h:Up r p k)(qW:i<=j)(hj:j<k):rk r p i<=rk r p j:=by
 have:=h.le (j - i) i ((A3 [.e Va Vb,.l Vb Vc] (.l (.a Va ux) Vc)) qW hj)
 rwa [show i+(j - i)=j by exact Nat.add_sub_cancel' ‹_›]at this
def EM{p:Array Nat}(hp:eM n p):∀(f k:Nat),1<=k->k+f<=n->Up r p k->good (ord r) n (λm=>k<=m/\m<=k+f/\Up r p m/\(m<k+f->rk r p m<rk r p (m - 1))) (kas_asc p f k):=by
 intro l';induction l' with
 |zero=>exact @λk _ _ hu=>⟨VP _,VP _,hu,λh=>absurd h (Vw _)⟩
 |succ f aU=>
  exact @λk h1 hk hu=>by
   refine⟨hp.lt (SX hk),hp.lt ((A3 [.e pQ Vc] (.l jd Vc)) hk),hp.ne (SX hk) ((A3 [.e pQ Vc] (.l jd Vc)) hk) ((A1 [.e K1 Va] (.n (.q Va jd))) h1),?_⟩;by_cases c:rk r p k<rk r p (k - 1)
   .have e:ord r (p.getD k 0) (p.getD (k - 1) 0)=true:=Vk c;rw[e];exact⟨VP _,by exact UB _ _,hu,λ_=>c⟩
   have e:ord r (p.getD k 0) (p.getD (k - 1) 0)=false:=U1 c;rw[e];have pN:Up r p (k+1):=λi h2 h3=>by
    by_cases hi:i=k
    ·(replace hi:=V7 hi;subst hi);exact V0.mp ‹_›
    exact hu i h2 ((A2 [.l Va f9,.n se] nE) h3 hi)
   refine good_mono (λm ⟨a1,a2,a3,a4⟩=>⟨by exact VE ‹_›,by lia,a3,λh=>a4 ((A3 [.l Va (.a Vb q8)] (.l Va (.a f9 Vc))) h)⟩) (aU (k+1) (VC _) ((A3 [.e pQ Vc] (.e (.a fJ Vb) Vc)) hk) pN)
def jD(hm:m<=p.size)(hq:q+1<=m)(he:∀i,m - 1 - q<=i->i<m->rk r p i=rk r p (m - 1))(k:Nat):rk r (kas_rev p (m - (q+1)) m) k=rk r p k:=by
 rw[uL hm];split
 ·rename_i h;rw[he _ (by lia) (by exact(A3 [.a (.e (.s Va f9) Vc) (.l Vc Va)] (.l (.s (.s (.a (.s Va f9) Va) K1) Vc) Va)) h),he k (by exact(A3 [.a (.e (.s Va f9) Vc) (.l Vc Va)] (.e (.s jd Vb) Vc)) h) (by simp+arith only[*])]
 rfl
def Hf:∀(f:Nat) (p:Array Nat) (k q:Nat),eM n p->q+1<=k->k+f<=n->Down r p k->(∀i,k - 1 - q<=i->i<k->rk r p i=rk r p (k - 1))->
 good (ord r) n (λx=>eM n x.1/\x.2.2+1<=x.2.1/\k<=x.2.1/\x.2.1<=k+f/\Down r x.1 x.2.1/\∀i,x.2.1 - 1 - x.2.2<=i->i<x.2.1->rk r x.1 i=rk r x.1 (x.2.1 - 1)) (kas_desc f p k q):=by
 intro l';induction l' with
 |zero=>exact @λp k q hp h1 hk hd he=>⟨hp,h1,VP _,VP _,hd,he⟩
 |succ f aU=>
  exact @λp k q hp h1 hk hd he=>by
   have hsz:=hp.size;refine⟨hp.lt (SX hk),hp.lt ((A3 [.e pQ Vc] (.l jd Vc)) hk),hp.ne (SX hk) ((A3 [.e pQ Vc] (.l jd Vc)) hk) ((A2 [.e fJ Vb] (.n (.q Vb (.s Vb K1)))) h1),?_⟩;by_cases c:rk r p k<rk r p (k - 1)
   .have e:ord r (p.getD k 0) (p.getD (k - 1) 0)=true:=Vk c;rw[e];simp only[V8];by_cases hq:q>0
    .rw[if_pos hq];have eq:=jD (r:=r) (p:=p) (m:=k) (q:=q) ((A4 [.e pQ Vc,.q Vd Vc] (.e Va Vd)) hk hsz) h1 he;refine good_mono (λx ⟨a1,a2,a3,a4,a5⟩=>⟨a1,a2,by exact VE ‹_›,by lia,a5⟩) (aU _ (k+1) 0 (hp.rev _ _) (VC _) ((A3 [.e pQ Vc] (.e (.a fJ Vb) Vc)) hk) (λi h2 h3=>?_) (λi h2 h3=>?_))
     .rw[eq,eq];by_cases hi:i=k
      ·(replace hi:=V7 hi;subst hi);exact VK ‹_›
      exact hd i h2 ((A2 [.l Va f9,.n se] nE) h3 hi)
     rw[show i=k+1 - 1 by exact Nat.eq_of_le_of_lt_succ h2 h3]
    rw[if_neg hq];refine good_mono (λx ⟨a1,a2,a3,a4,a5⟩=>⟨a1,a2,by exact VE ‹_›,by lia,a5⟩) (aU p (k+1) 0 hp (VC _) ((A3 [.e pQ Vc] (.e (.a fJ Vb) Vc)) hk) (λi h2 h3=>?_) (λi h2 h3=>?_))
    .by_cases hi:i=k
     ·(replace hi:=V7 hi;subst hi);exact VK ‹_›
     exact hd i h2 ((A2 [.l Va f9,.n se] nE) h3 hi)
    rw[show i=k+1 - 1 by exact Nat.eq_of_le_of_lt_succ h2 h3]
   have e:ord r (p.getD k 0) (p.getD (k - 1) 0)=false:=U1 c;rw[e];refine⟨hp.lt ((A3 [.e pQ Vc] (.l jd Vc)) hk),hp.lt (SX hk),hp.ne ((A3 [.e pQ Vc] (.l jd Vc)) hk) (SX hk) ((A2 [.e fJ Vb] (.n (.q (.s Vb K1) Vb))) h1),?_⟩;by_cases d:rk r p (k - 1)<rk r p k
   .have e:ord r (p.getD (k - 1) 0) (p.getD k 0)=true:=Vk d;rw[e];exact⟨hp,h1,VP _,UB _ _,hd,he⟩
   have e:ord r (p.getD (k - 1) 0) (p.getD k 0)=false:=U1 d;rw[e];have heq:rk r p k=rk r p (k - 1):=by exact(I2 [.n q9,.n (.L Qb Qa)] vQ) c d
   refine good_mono (λx ⟨a1,a2,a3,a4,a5⟩=>⟨a1,a2,by exact VE ‹_›,by lia,a5⟩) (aU p (k+1) (q+1) hp (Nat.add_le_add_right h1 1) ((A3 [.e pQ Vc] (.e (.a fJ Vb) Vc)) hk) (λi h2 h3=>?_) (λi h2 h3=>?_))
   .by_cases hi:i=k
    ·(replace hi:=V7 hi;subst hi);exact V0.mp ‹_›
    exact hd i h2 ((A2 [.l Va f9,.n se] nE) h3 hi)
   refine(?_:rk r p i=rk r p k);by_cases hi:i=k
   .rw[hi]
   rw[heq];exact he i ((A3 [.e (.s (.s fJ K1) f9) Vc] (.e (.s jd Vb) Vc)) h2) ((A2 [.l Va f9,.n se] nE) h3 hi)
noncomputable abbrev jT(r:Nat->Int)(n:Nat):Nat×Array Nat->Prop:=λx=>eM n x.2/\1<=x.1/\x.1<=n/\Up r x.2 x.1
def wL{m:Nat}(hp:eM n p)(h1:1<=m)(hm:m<=n)(hd:Down r p m):good (ord r) n (jT r n) (kas_tail3 m n p):=by
 have hsz:=hp.size;have up:Up r (kas_rev p 0 m) m:=λi h2 h3=>by
  rw[uL (by exact le_of_le_of_eq hm (V7 hsz)),uL (by exact le_of_le_of_eq hm (V7 hsz)),if_pos (by exact(A2 [.l Va Vb] (.a (.e K0 jd) (.l jd Vb))) h3),if_pos (by exact(A2 [.l Va Vb] (.a (.e K0 Va) nE)) h3)];have:=hd (0+m - 1 - (i - 1)) ((A2 [.e K1 Va,.l Va Vb] (.e K1 (.s (.s (.a K0 Vb) K1) jd))) h2 h3) ((A2 [.e K1 Va] (.l (.s (.s (.a K0 Va) K1) (.s Vb K1)) Va)) h1)
  rwa [show 0+m - 1 - (i - 1) - 1=0+m - 1 - i by exact(A2 [.e K1 Va] (.q (.s (.s (.s (.a K0 Vb) K1) jd) K1) (.s (.s (.a K0 Vb) K1) Va))) h2]at this
 refine gh (good_mono (P:=λx=>m<=x/\x<=m+(n - m)/\Up r (kas_rev p 0 m) x/\(x<m+(n - m)->rk r (kas_rev p 0 m) x<rk r (kas_rev p 0 m) (x - 1))) (λx L7=>kS L7 λa1 a2 a3 _=>?_) (EM (hp.rev 0 m) (n - m) m h1 ((A2 [.e Va Vb] (.e (.a Va ux) Vb)) hm) up));exact(show jT r n (x,kas_rev p 0 m)from⟨hp.rev 0 m,Vz h1 a1,by exact(A3 [.e Va (.a Vb (.s Vc Vb)),.e Vb Vc] (.e Va Vc)) a2 hm,a3⟩)
def oV{m:Nat}(hp:eM n p)(h1:1<=m)(hm:m+1<=n)(hd:Down r p (m+1)):good (ord r) n (jT r n) (kas_descPart m n p):=by
 refine gh (good_mono (λx ⟨a1,a2,a3,a4,a5,a6⟩=>?_) (Hf (n - (m+1)) p (m+1) 0 hp (VC _) ((A2 [.e fJ Vb] (.e (.a fJ (.s Vb fJ)) Vb)) hm) hd λi h2 h3=>by rw[show i=m+1 - 1 by exact Nat.eq_of_le_of_lt_succ h2 h3]));have hsz:=a1.size;by_cases hq:x.2.2>0
 .rw[if_pos hq];have eq:=jD (r:=r) (p:=x.1) (m:=x.2.1) (q:=x.2.2) (by omega) a2 a6;exact wL (a1.rev _ _) (Nat.lt_trans ‹_› ‹_›) (by omega) λi h2 h3=>by rw[eq,eq];exact a5 i h2 h3
 rw[if_neg hq];exact wL a1 (Nat.lt_trans ‹_› ‹_›) (by omega) a5
def DC{p:Array Nat}(hp:eM n p)(hn:1<=n):good (ord r) n (jT r n) (kas_count n p):=by
 have hsz:=hp.size;refine gh (good_mono (λm ⟨a1,a2,a3,a4⟩=>?_) (EM hp (n - 1) 1 (VP _) ((A1 [.e K1 Va] (.e (.a K1 jd) Va)) hn) λi h2 h3=>by exact absurd ‹_› (V1.mpr ‹_›)));by_cases e1:(m==n)=true
 .rw[if_pos e1];exact⟨hp,a1,by lia,a3⟩
 rw[if_neg e1];have eH:m≠n:=λq=>e1 (by rw[q];exact beq_self_eq_true _);have cB:m<1+(n - 1):=by lia
 have down:rk r p m<rk r p (m - 1):=a4 cB;by_cases e2:m>1
 .rw[if_pos e2];refine⟨hp.lt (by assumption),hp.lt ((A2 [.l Va (.a K1 (.s Vb K1)),.l K1 Va] (.l jd Vb)) cB e2),hp.ne (by assumption) ((A2 [.l Va (.a K1 (.s Vb K1)),.l K1 Va] (.l jd Vb)) cB e2) ((A1 [.l K1 Va] (.n (.q K0 jd))) e2),?_⟩;by_cases c:rk r p 0<rk r p (m - 1)
  .have e:ord r (p.getD 0 0) (p.getD (m - 1) 0)=true:=Vk c;rw[e];exact⟨hp,a1,by lia,a3⟩
  have e:ord r (p.getD 0 0) (p.getD (m - 1) 0)=false:=U1 c;rw[e];have um:∀i,i<m->rk r p i=rk r p (m - 1):=λi hi=>by have h1:=a3.H8 (i:=0) (j:=i) (VO _) hi;have h2:=a3.H8 (i:=i) (j:=m - 1) (Nat.le_sub_one_of_lt hi) (sub_lt ‹_› (VC _));exact(I3 [.n q9,.E Qa Qc,.E Qc Qb] (.Q Qc Qb)) c h1 h2
  have eq:∀k,rk r (kas_rev p 0 m) k=rk r p k:=λk=>by
   have:=jD (r:=r) (p:=p) (m:=m) (q:=m - 1) ((A3 [.q Va Vb,.l Vc (.a K1 (.s Vb K1))] (.e Vc Va)) hsz cB) (sub_lt ‹_› (VC _)) (λi _ hi=>um i hi) k
   rwa [show m - (m - 1+1)=0 by exact(A1 [] (.q (.s Va (.a jd K1)) K0))]at this
  refine oV (hp.rev _ _) a1 ((A2 [.e K1 Va,.l Vb (.a K1 jd)] (.e f9 Va)) hn cB) λi h2 h3=>?_;rw[eq,eq];by_cases hi:i=m
  ·(replace hi:=V7 hi;subst hi);exact VK ‹_›
  simp only[um i ((A2 [.l Va f9,.n se] nE) h3 hi),um (i - 1) (Nat.sub_lt_right_of_lt_add h2 h3)];exact VT _
 rw[if_neg e2];refine oV hp a1 ((A2 [.e K1 Va,.n (.q Vb Va),.n (.l K1 Vb)] (.e f9 Va)) hn eH e2) λi h2 h3=>?_;have:i=m:=by exact(A2 [.n (.l K1 Va),.e K1 Vb,.l Vb fJ] (.q Vb Va)) e2 h2 h3
 (replace this:=V7 this;subst this);exact VK ‹_›
def DB(hp:eM n p)(hk:k<n)(hu:Up r p k):∀(f l rr:Nat),l<=rr->rr<=k->rr - l<=f->(∀i,i<l->rk r p i<=rk r p k)->(∀i,rr<=i->i<k->rk r p k<rk r p i)->
 good (ord r) n (λm=>m<=k/\(∀i,i<m->rk r p i<=rk r p k)/\∀i,m<=i->i<k->rk r p k<rk r p i) (kas_place p k f l rr):=by
 intro l';induction l' with
 |zero=>exact @λl rr h1 h2 h3 a b=>⟨by exact Vz ‹_› ‹_›,a,λi x y=>b i ((A3 [.e vR K0,.e Vb Vc] (.e Va Vc)) h3 x) y⟩
 |succ f aU=>
  exact @λl rr h1 h2 h3 a b=>by
   unfold kas_place;by_cases w9:l>=rr
   .rw[if_pos w9];exact⟨by exact Vz ‹_› ‹_›,a,λi x y=>b i (Vz ‹_› ‹_›) y⟩
   rw[if_neg w9];refine⟨hp.lt hk,hp.lt ((A5 [.l Va Vb,.e Vc Va,.n (.e Vc Vd),.e (.m 2 Ve) (.a Vd Vc)] (.l Ve Vb)) hk h2 w9 (Vn _ _)),hp.ne hk ((A5 [.l Va Vb,.e Vc Va,.n (.e Vc Vd),.e (.m 2 Ve) (.a Vd Vc)] (.l Ve Vb)) hk h2 w9 (Vn _ _)) ((A4 [.e Va Vb,.n (.e Va Vc),.e (.m 2 Vd) (.a Vc Va)] (.n (.q Vb Vd))) h2 w9 (Vn _ _)),?_⟩;by_cases c:rk r p k<rk r p ((l+rr)/2)
   .have e:ord r (p.getD k 0) (p.getD ((l+rr)/2) 0)=true:=Vk c;rw[e];exact aU l ((l+rr)/2) ((A3 [.n (.e Va Vb),.l (.a Vb Va) (.m 2 q8)] (.e Vb Vc)) w9 (lt_mul_div_succ _ (by decide))) ((A4 [.e Va Vb,.n (.e Va Vc),.e (.m 2 Vd) (.a Vc Va)] (.e Vd Vb)) h2 w9 (Vn _ _)) ((A4 [.e vR q8,.e (.m 2 Vd) (.a Vb Va)] (.e (.s Vd Vb) Vc)) h3 (Vn _ _)) a λi x y=>by have:=hu.H8 x y;exact Int.lt_of_lt_of_le ‹_› ‹_›
   have e:ord r (p.getD k 0) (p.getD ((l+rr)/2) 0)=false:=U1 c;rw[e];exact aU ((l+rr)/2+1) rr ((A3 [.n (.e Va Vb),.e (.m 2 Vc) (.a Vb Va)] (.e q8 Va)) w9 (Vn _ _)) h2 ((A4 [.e vR q8,.l (.a Vb Va) (.m 2 uo)] (.e (.s Va uo) Vc)) h3 (lt_mul_div_succ _ (by decide))) (λi x=>by have:=hu.H8 (i:=i) (j:=(l+rr)/2) (le_of_lt_succ x) ((A4 [.e Va Vb,.n (.e Va Vc),.e (.m 2 Vd) (.a Vc Va)] (.l Vd Vb)) h2 w9 (Vn _ _));exact(I3 [.n q9,.E Qc Qb] (.E Qc Qa)) c this) b
theorem EL:∀(f:Nat) (p:Array Nat) (k:Nat),eM n p->k+f=n->Up r p k->good (ord r) n (λp'=>eM n p'/\Up r p' n) (kas_bin f p k)
 |0,p,k,hp,hk,hu=>by
  have:k=n:=by exact Nat.add_right_cancel hk
  subst this;exact⟨hp,hu⟩
 |f+1,p,k,hp,hk,hu=>by
  have hsz:=hp.size;refine gh (good_mono (λl L6=>dW L6 λa1 a2 a3=>?_) (DB hp (by exact(A3 [.q pQ Vc] (.l Va Vc)) hk) hu k 0 k (VO _) (VP _) (by exact VP _) (λi h=>by exact(U5 _ ‹_›).elim) (λi h h'=>by exact absurd ‹_› (V1.mpr ‹_›))));refine EL f _ (k+1) (hp.Rx _ _) (by exact(A3 [.q pQ Vc] (.q (.a fJ Vb) Vc)) hk) λi h2 h3=>?_;rw[z8 (by exact(A4 [.q pQ Vc,.q Vd Vc] (.l Va Vd)) hk hsz) (by exact sub_le _ _),z8 (by exact(A4 [.q pQ Vc,.q Vd Vc] (.l Va Vd)) hk hsz) (by exact sub_le _ _)];have e:k - (k - l)=l:=by lia
  refine Eq.substr e ?_;by_cases c1:i=l
  .rw[if_pos c1,if_neg (by exact(A2 [.e K1 Va,.q Va Vb] (.n (.q jd Vb))) h2 c1),if_neg (by exact(A3 [.q Va Vb] (.n (.a (.l Vb jd) (.e jd Vc)))) c1)];exact a2 (i - 1) ((A2 [.e K1 Va,.q Va Vb] (.l jd Vb)) h2 c1)
  rw[if_neg c1];by_cases c2:l<i/\i<=k
  .rw[if_pos c2];by_cases c3:i - 1=l
   .rw[if_pos c3];rw[c3];have:=a3 l (VP _) ((A3 [.a nE (.e Vb Vc)] (.l Va Vc)) c2);exact VK ‹_›
   rw[if_neg c3,if_pos (by exact(A3 [.a nE (.e Vb Vc),.n (.q (.s Vb K1) Va)] (.a (.l Va (.s Vb K1)) (.e (.s Vb K1) Vc))) c2 c3)];exact hu (i - 1) ((A3 [.a nE (.e Vb Vc),.n (.q (.s Vb K1) Va)] (.e K1 (.s Vb K1))) c2 c3) (Nat.sub_lt_right_of_lt_add h2 h3)
  rw[if_neg c2,if_neg (by exact(A3 [.e K1 Va,.l Va f9,.n (.a (.l Vc Va) (.e Va Vb))] (.n (.q jd Vc))) h2 h3 c2),if_neg (by exact(A3 [.l Va f9,.n (.a (.l Vc Va) (.e Va Vb))] (.n (.a (.l Vc jd) (.e jd Vb)))) h3 c2)];exact hu i h2 ((A3 [.l Va f9,.q (.s Vb (.s Vb Vc)) Vc,.n (.q Va Vc),.n (.a (.l Vc Va) (.e Va Vb))] nE) h3 e c1 c2)
def He(h:1<=n):good (ord r) n (λp=>eM n p/\Up r p n) (kas_sort n):=by
 have h0:eM n (toArray (List.range n)):=⟨Perm.refl _⟩;refine gh (good_mono (λx PC=>kS PC λa1 a2 a3 a4=>?_) (DC h0 h));by_cases c:x.1<n
 .rw[if_pos c];have e:max x.1 1=x.1:=by lia
  rw[e];exact EL _ _ _ a1 (Nat.add_sub_cancel' ‹_›) a4
 rw[if_neg c];have:x.1=n:=by lia
 rw[this]at a4;exact⟨a1,a4⟩
end
end
section
open AutoSeq1 (wpAny_loadPart')
open MeetsSeq MeetsSeq2 MeetsSeq3 SeqRoads2
def A8(l b:Addr)(items dQ:Array Value)(n n2 j:Nat)(x y:Int)(t u:Tok)(h1:items[j]? =some (.int x t))(h2:dQ[j]? =some (.int y u))(k:Nat):
 ∀i:Nat,j - i=k->i<=j->Meets (Builtin.«list.__eq__.loop» ⟨[.ref l,.ref b,rawInt i,rawInt 0],[]⟩)
  (λA R s=>s.heap.get? l=some {cls:=.type "list",data:=.seq items n}/\s.heap.get? b=some {cls:=.type "list",data:=.seq dQ n2}/\
   (∀m (v w:Value),m<j->items[m]? =some v->dQ[m]? =some w->EqAt A.in1 s v w true)/\j<items.size/\j<dQ.size/\x≠y/\
   R (.ok (.ret (.bool (decide (x<y))))) s):=by
 induction k with
 |zero=>
  intro i hk qW prog w A R s h;obtain⟨hp,g,d,tk,os⟩:=s;obtain⟨hl,hb,he,hj,Lu,eH,h⟩:=h;have Nw:i=j:=by exact(A2 [.q vR K0,.e Vb Va] (.q Vb Va)) hk qW
  subst Nw
  wp_walk using U6 hl,U6 hb
  have e1:items[((i:Nat):Int).toNat]? =some (.int x t):=by simpa using h1
  have e2:dQ[((i:Nat):Int).toNat]? =some (.int y u):=by simpa using h2
  (refine Eq.substr e1 ?_;refine Eq.substr e2 ?_);refine VU (EqAt.int_int x t y u prog w _ _ ?_);rw[show(x==y)=false from TH.mpr eH]
  wp_walk using U6 hl,U6 hb
  (refine Eq.substr e1 ?_;refine Eq.substr e2 ?_);refine VU (show wpAny (model prog w) A.in1 (compareOp .Lt (.int x t) (.int y u)) _ _ _ from lt_int ?_)
  wp_walk
  exact h
 |succ k ih=>
  intro i hk qW prog w A R s h;obtain⟨hp,g,d,tk,os⟩:=s;refine oz h λhl hb he hj Lu eH h=>?_
  wp_walk using U6 hl,U6 hb
  have cB:i<items.size:=by exact TV ‹_› ‹_›
  have Nt:i<dQ.size:=by exact TV ‹_› ‹_›
  have HL:items[((i:Nat):Int).toNat]? =some items[i]:=by simp[cB]
  have My:dQ[((i:Nat):Int).toNat]? =some dQ[i]:=by simp[Nt]
  have hc:((i:Int)+1)=((i+1:Nat):Int):=by push_cast;rfl
  (refine Eq.substr HL ?_;refine Eq.substr My ?_);refine VU (he i _ _ (Nat.lt_of_sub_eq_succ hk) (by trivial) (by trivial) prog w _ _ ?_)
  wp_walk
  rw[hc];exact⟨plainId_quiet plain_eq_loop _,codeAny_builtin entry_eq_loop (by rw[Around.under_plainId plain_eq_loop _];exact ih (i+1) ((A3 [.q vR q8] (.q (.s Va f9) Vc)) hk) ((A3 [.q vR q8] (.e f9 Va)) hk) prog w A R _ ⟨hl,hb,he,hj,Lu,eH,h⟩)⟩
def PX(l b:Addr)(items dQ:Array Value)(n n2 j:Nat)(x y:Int)(t u:Tok)(h1:items[j]? =some (.int x t))(h2:dQ[j]? =some (.int y u)):
 Meets (Builtin.«list.__lt__» ⟨[.ref l,.ref b],[]⟩)
  (λA R s=>s.heap.get? l=some {cls:=.type "list",data:=.seq items n}/\s.heap.get? b=some {cls:=.type "list",data:=.seq dQ n2}/\
   (∀m (v w:Value),m<j->items[m]? =some v->dQ[m]? =some w->EqAt A.in1 s v w true)/\x≠y/\
   R (.ok (.ret (.bool (decide (x<y))))) s):=by
 intro prog w A R s h;obtain⟨hp,g,d,tk,os⟩:=s;refine dk h λhl hb he eH h=>?_;have f3:=AutoSeq1.sub_list_list
 wp_walk using U6 hl,U6 hb
 exact⟨plainId_quiet plain_eq_loop _,codeAny_builtin entry_eq_loop (by rw[Around.under_plainId plain_eq_loop _];exact A8 l b items dQ n n2 j x y t u h1 h2 _ 0 rfl (VO _) prog w A R _ ⟨hl,hb,he,(SA.mp h1).1,(SA.mp h2).1,eH,h⟩)⟩
def wq{n n2 j:Nat}{t u:Tok}(hu:A.units<cLine)
 (hl:s.heap.get? l=some {cls:=.type "list",data:=.seq items n})(hb:s.heap.get? b=some {cls:=.type "list",data:=.seq dQ n2})(h1:items[j]? =some (.int x t))(h2:dQ[j]? =some (.int y u))
 (he:∀m (v w:Value),m<j->items[m]? =some v->dQ[m]? =some w->EqAt A.in1 s v w true)(eH:x≠y)(h:Q (decide (x<y)) s):wpAny (model prog w) A (keyLt' oneType' (.ref l) (.ref b)) Q E s:=by
 rw[keyLt'_oneType,oneLt'_eq,if_pos rfl];refine VU (wpAny_cRoomFor hu ?_);refine VU (wpAny_callSpecialIfBound?_slot (name:=Str.ofString "__lt__") ⟨_,hl,rfl⟩ PySem.F.slot_list_lt (call_meets PySem.F.slot_list_lt ⟨_,hl,rfl⟩ PySem.F.entry_list_lt (PySem.F.args_list_lt_2 _ _) (PX l b items dQ n n2 j x y t u h1 h2) ⟨hl,hb,he,eH,?_⟩));exact wpAny_truthy_bool h
section
variable{prog:Program}{w:World}{A:Around}{E:Value->Shared->Prop}{s:Shared}
def C1{κ:SortKind}(ho:s.heap.get? a=some (seqObj "list" vs.toArray n))(h2:2<=vs.length)(yz:vs.length<64)
 (hk:∀s':Shared,(∀b o,b≠a->s.heap.get? b=some o->s'.heap.get? b=some o)->wpAny (model prog w) A (keyKind' vs.toArray) (λk BN=>k=κ/\BN=s') (λ_ _=>False) s')
 (hc:∀(s':Shared) (i j:Nat) (C:Bool->Shared->Prop),(∀b o,b≠a->s.heap.get? b=some o->s'.heap.get? b=some o)->i<vs.length->j<vs.length->i≠j->C (decide (r i<r j)) s'->kas_ask prog w A κ vs i j C s')
 (h:∀(h':Heap) (p:Array Nat) (c:Nat),eM vs.length p->Up r p vs.length->(∀b o,b≠a->s.heap.get? b=some o->h'.get? b=some o)->h'.get? a=some (seqObj "list" (p.toList.map λi=>vs.getD i Value.none).toArray c)->
  P (.done (.ret .none)) {s with heap:=h'}):
 wpAny (model prog w) A (Builtin.«list.sort» ⟨[.ref a],[]⟩) P E s:=by
 have ha:a<s.heap.objs.size:=VD ho;have Qj:vs.toArray.size<=sizeLine:=by rw[Ud,VR];exact(A1 [.l Va (.c 64)] (.e Va kF)) yz
 obtain⟨e1,BV⟩:∃e1,(s.heap.update a (Obj.mapSeq λ_=>(#[]:Array Value))).get? a=some (seqObj "list" #[] e1):=⟨_,Vj ho λ_=> #[]⟩;rw[list_sort_plain];refine VU (listItems_at ho rfl (VU (listUpdate_at ho rfl (VU (seqEpoch_at BV rfl (VU (wpAny_newTuple (VU (wpAny_newList (Vx ?_) (VO _))) (by show vs.length<=_;rw[VR];assumption))))) Qj (VO _))));dsimp only;have uu:¬vs.toArray.size<2:=by rw[Ud];exact Nat.not_lt_of_le ‹_›
 (refine Eq.substr (if_neg uu) ?_;refine Eq.substr (if_neg uu) ?_);generalize hH:((s.heap.update a (Obj.mapSeq λ_=>(#[]:Array Value))).push (seqObj "tuple" vs.toArray 0)).push (seqObj "list" #[] 0)=H;revert H;refine nz ?_;intro H;intro;have ML:H.get? a=some (seqObj "list" #[] e1):=hH▸SR _ (SR _ BV);have MK:∀b o,b≠a->s.heap.get? b=some o->H.get? b=some o:=λb o hb e=>hH▸SR _ (SR _ ((S8 _ _ (V9 hb)).trans e));refine VU (sr (hk {s with heap:=H} MK) λDQ s0 q1 q2=>?_);subst q1 q2;refine VU (VW (kat_run (ks:=vs) (vs:=vs) (κ:=DQ) (Q:=λqU s'=>s'={s with heap:=H}/\∃p:Array Nat,p.size=vs.length/\eM vs.length p/\Up r p vs.length/\arrOf qU=p.map (kas_item (vs.toArray.zip vs.toArray))/\failedOf qU=none)
  (G:=λp s'=>s'={s with heap:=H}/\eM vs.length p/\Up r p vs.length) rfl h2 yz (λp qU s' a1 a2 a3 a4=>⟨a4.1,p,a1,a4.2.1,a4.2.2,a2,a3⟩)
  (wJ (b:=ord r) (n:=vs.length) (Inv:=λs'=>s'={s with heap:=H}) (λi j C s' hi hj qW e hC=>?_) (λp s' e hp=>⟨e,hp⟩) _ _ rfl (He (VE ‹_›)))) ?_ λ_ _ e=>e)
 .subst e;exact hc _ i j C MK hi hj qW (hC _ rfl)
 intro bx s' PA;obtain⟨⟨⟩,qU⟩:=bx;obtain⟨rfl,p,hp,sh,up,Q0,hf⟩:=PA;dsimp only;have xo:=kat_snds rfl Q0;refine VU (seqEpoch_at ML rfl ?_);rw[xo];have hsz:(toArray (p.toList.map λi=>vs.getD i Value.none)).size=vs.length:=by(refine V3 Ud ?_;rw[US];simp only[Array.length_toList];exact hp)
 refine VU (listUpdate_at ML rfl ?_ (VO _) (Vz (VH hsz) (by rw[VR];exact le_succ_of_le ‹_›)));rw[hf];simp only[Uu,T8,V6];exact VV (h _ p _ sh up (λb o hb e=>(S8 _ _ (V9 hb)).trans (MK b o hb e)) (Vj ML λ_=>_))
def xE{κ:SortKind}(hl:s.heap.IsList l vs.toArray)(yz:vs.length<64)
 (hk:∀s':Shared,(∀b o,s.heap.get? b=some o->s'.heap.get? b=some o)->2<=vs.length->wpAny (model prog w) A.in1.in1 (keyKind' vs.toArray) (λk BN=>k=κ/\BN=s') (λ_ _=>False) s')
 (hc:∀(s':Shared) (i j:Nat) (C:Bool->Shared->Prop),(∀b o,s.heap.get? b=some o->s'.heap.get? b=some o)->i<vs.length->j<vs.length->i≠j->C (decide (r i<r j)) s'->kas_ask prog w A.in1.in1 κ vs i j C s')
 (h:∀(D:Addr) (h':Heap) (p:Array Nat) (c:Nat),s.heap.get? D=none->eM vs.length p->Up r p vs.length->(∀b o,s.heap.get? b=some o->h'.get? b=some o)->h'.get? D=some (seqObj "list" (p.toList.map λi=>vs.getD i Value.none).toArray c)->
  Q (.ref D) {s with heap:=h'}):
 wpAny (model prog w) A (call (.builtin "sorted") [.ref l]) Q E s:=by
 refine Calls.call_function_entry kind_sorted plain_sorted entry_sorted (args_sorted1 _) ?_
 unfold Builtin.«sorted»;refine VU (m:=checkCount "sorted" 1 1 _) (VV ?_);refine VU (collect_list hl ?_ (by rw[VR];exact(A1 [.l Va (.c 64)] (.e Va kF)) yz));refine VU (wpAny_newList ?_ (by rw[VR];exact(A1 [.l Va (.c 64)] (.e Va kF)) yz));generalize hH:(s.heap.push (seqObj "list" #[] 0)).update s.heap.objs.size (Obj.mapSeq (·++vs.toArray))=H;revert H;refine nz ?_;intro H;intro;have Rg:H.objs.size=s.heap.objs.size+1:=by rw[<-hH,Heap.size_update,size_push']
 have Kf:∀b o,s.heap.get? b=some o->H.get? b=some o:=λb o q=>by have cB:b<s.heap.objs.size:=VD q;rw[<-hH];exact(S8 _ _ (Nat.ne_of_gt cB)).trans (SR _ q)
 dsimp only;have hD:(H.push (seqObj "list" vs.toArray 0)).get? H.objs.size=some (seqObj "list" vs.toArray 0):=TG _ rfl;have keep:∀b o,s.heap.get? b=some o->(H.push (seqObj "list" vs.toArray 0)).get? b=some o:=λb o q=>SR _ (Kf b o q);have MM:s.heap.get? H.objs.size=none:=cz _ (by rw[Rg];exact VS _);have apart:∀b o,s.heap.get? b=some o->b≠H.objs.size:=λb o e q=>by rw[q,MM]at e;exact cG e
 refine VU (Vx (UQ slot_list_sort ⟨_,hD,rfl⟩ entry_list_sort ?body (args_list_sort _)))
 case body=>
  by_cases h2:2<=vs.length
  .refine C1 (s:={s with heap:=H.push (seqObj "list" vs.toArray 0)}) (κ:=κ) (r:=r) hD h2 yz (λs' k=>hk s' (λb o e=>k b o (apart b o e) (keep b o e)) h2) (λs' i j C k hi hj qW hC=>hc s' i j C (λb o e=>k b o (apart b o e) (keep b o e)) hi hj qW hC) λh' p c sh up k hd=>⟨_,rfl,?_⟩;exact VV ⟨_,rfl,h _ h' p c MM sh up (λb o e=>k b o (apart b o e) (keep b o e)) hd⟩
  -- one or none
  rw[list_sort_plain];obtain⟨e1,BV⟩:∃e1,((H.push (seqObj "list" vs.toArray 0)).update H.objs.size (Obj.mapSeq λ_=>(#[]:Array Value))).get? H.objs.size=some (seqObj "list" #[] e1):=⟨_,Vj hD λ_=> #[]⟩;refine VU (listItems_at hD rfl (VU (listUpdate_at hD rfl (VU (seqEpoch_at BV rfl (VU (wpAny_newTuple (VU (wpAny_newList (Vx ?_) (VO _))) (by show vs.length<=_;rw[VR];exact(A1 [.n (.e K2 Va)] (.e Va kF)) h2))))) (by rw[Ud,VR];exact(A1 [.n (.e K2 Va)] (.e Va kF)) h2) (VO _))));dsimp only;have uu:vs.toArray.size<2:=by rw[Ud];exact Nat.lt_of_not_le ‹_›
  (refine Eq.substr (if_pos uu) ?_;refine Eq.substr (if_pos uu) ?_);refine VU (VV ?_);rw[StateT.run_pure];refine VU (VV ?_);dsimp only;have Mq:=SR (seqObj "list" #[] 0) (SR (seqObj "tuple" vs.toArray 0) BV);refine VU (seqEpoch_at Mq rfl ?_);refine VU (listUpdate_at Mq rfl ?_ (VO _) (by rw[Array.size_map];show(vs.toArray.zip vs.toArray).size<=_;simp;rw[VR];exact(A1 [.n (.e K2 Va)] (.e Va (.a kF K1))) h2));simp only[Uu,T8,V6];refine VV ⟨_,rfl,VV ⟨_,rfl,?_⟩⟩;have g0:=Vj Mq λ_=>(arrOf (SortSt.mk' general' (vs.toArray.zip vs.toArray) #[] 7 none)).map (·.2);have eo:(arrOf (SortSt.mk' general' (vs.toArray.zip vs.toArray) #[] 7 none)).map (·.2)=((List.range vs.length).toArray.toList.map λi=>vs.getD i Value.none).toArray:=by have h7:=kat_snds (ks:=vs) (vs:=vs) rfl (st:=SortSt.mk' general' (vs.toArray.zip vs.toArray) #[] 7 none) (p:=(List.range vs.length).toArray) (by have e:=kas_range (vs.toArray.zip vs.toArray);rw[show(vs.toArray.zip vs.toArray).size=vs.length by simp]at e;exact e.symm);exact h7
  generalize(if((Array.map (λx=>x.snd) (arrOf (SortSt.mk' general' (vs.toArray.zip vs.toArray) #[] 7 none))).size==(#[]:Array Value).size)=true then e1 else e1+1)=c1 at g0;refine h _ _ (List.range vs.length).toArray c1 MM ⟨Perm.refl _⟩ (λi h1 h2=>by lia) (λb o e=>?_) ?_
  .exact(S8 _ _ (V9 (apart b o e))).trans (SR _ (SR _ ((S8 _ _ (V9 (apart b o e))).trans (keep b o e))))
  rw[<-eo];exact g0
end
section
variable{G:Gd}{n:Nat}
noncomputable def lJ(r:D->Int)(xs ys:List D):Prop:=ys.Perm xs/\ys.Pairwise λa b=>r a<=r b
def tW(sh:eM xs.length p)(up:Up (λi=>r (xs.getD i .none)) p xs.length):lJ r xs (p.toList.map λi=>xs.getD i .none):=by
 refine⟨?_,?_⟩
 .have h1:=sh.perm.map (λi=>xs.getD i D.none);have h2:(List.range xs.length).map (λi=>xs.getD i D.none)=xs:=by
   apply ext_getElem?;intro i;rw[Uc];by_cases hi:i<xs.length
   .rw[TL hi,SK hi];simp[hi]
   rw[Tg (by simpa using hi),Tg (by simpa using hi)];rfl
  rwa [h2]at h1
 rw[pairwise_iff_getElem];intro i j hi hj qW;simp only[getElem_map,Array.getElem_toList];have hz:=sh.size;have Ip:i<p.size:=by simpa using hi
 have ON:j<p.size:=by simpa using hj
 have:=up.H8 (i:=i) (j:=j) (VE ‹_›) (T1 ON hz);unfold rk at this;simpa[Array.getD,Ip,ON]using this
def mP{κ:SortKind}(yz:xs.length<64)
 (hk:∀(A:Around) (s:Shared) (X:XS) (vs:List Value),ec A n->aK G s.heap X xs vs->2<=vs.length->wpAny (M G) A.in1.in1 (keyKind' vs.toArray) (λk BN=>k=κ/\BN=s) (λ_ _=>False) s)
 (hc:∀(A:Around) (s:Shared) (X:XS) (v w:Value) (d e:D) (C:Bool->Shared->Prop),ec A n->d∈xs->e∈xs->Rep G s.heap X d v->Rep G s.heap X e w->d≠e->C (decide (r d<r e)) s->wpAny (M G) A.in1.in1 (keyLt' κ v w) C (λ_ _=>False) s)
 (ho:∀ys,lJ r xs ys->ys=out)(hd:xs.Nodup):PL G n [.list xs] (λvs=>call (.builtin "sorted") vs) (.list out):=.one λA s X v R S rr=>by
 obtain⟨l,vs,rfl,hx,hl,hr⟩:=aA.mp rr;have hlen:=hr.length;refine xE (κ:=κ) (r:=λi=>r (xs.getD i .none)) hl.isList (lt_of_eq_of_lt hlen yz) (λs' k h2=>hk A s' X vs R (aK.move (Ok.keep λb o _ e=>k b o e) _ _ hr) h2) (λs' i j C k hi hj qW hC=>?_) λD h' p c hD sh up k hg=>?_
 .have uj:=aK.move (Ok.keep λb o _ e=>k b o e) _ _ hr;refine ao (uj.get (i:=i) (d:=xs[i]'(T1 hi hlen)) (SK _)) λv e1 e2=>?_;refine ao (uj.get (i:=j) (d:=xs[j]'(T1 hj hlen)) (SK _)) λw e3 e4=>?_;unfold kas_ask;have g1:vs.getD i Value.none=v:=by rw[Su,e1];rfl
  have g2:vs.getD j Value.none=w:=by rw[Su,e3];rfl
  have g3:xs.getD i .none=xs[i]'(T1 hi hlen):=by rw[Su,SK];rfl
  have g4:xs.getD j .none=xs[j]'(T1 hj hlen):=by rw[Su,SK];rfl
  rw[g1,g2];rw[g3,g4]at hC;exact hc A s' X v w _ _ C R (UH _) (UH _) e2 e4 (λq=>qW ((getElem_inj hd).mp q)) hC
 have ex:Ext G s {s with heap:=h'}:=.full k rfl id;refine⟨ex,aA.mpr ⟨D,_,rfl,S.none hD,⟨c,hg⟩,?_⟩⟩;rw[hlen]at sh up;rw[<-ho _ (tW sh up)];have uj:=ex.pk hr;refine aK.n7 (by simp) λi d v e1 e2=>?_;rw[Uc]at e1 e2;obtain⟨q,f1,rfl⟩:=SS.mp e1;rw[f1]at e2;have hq:q<xs.length:=by have:q∈p.toList:=To f1;exact Vm.mp (sh.perm.mem_iff.mp this)
 refine ao (uj.get (i:=q) (d:=xs[q]) (SK hq)) λv' g1 g2=>?_;have g3:xs.getD q .none=xs[q]:=by rw[Su,SK hq];rfl
 have g4:v=v':=by simp only[Option.map_some,Option.some.injEq]at e2;(refine V3 (V7 e2) ?_;refine V3 Su ?_;refine Eq.substr g1 ?_);rfl
 rw[g3,g4];exact g2
def xW{M:Model}:Looks M h (typeOf (.int i t)) (.type "int"):=Looks.of_pure rfl
noncomputable def nR:D->Int
 |.tup (.int i::_)=>i
 |_=>0
def Dy:nR (.tup (.int i::ds))=i:=rfl
def x4{xs:List D}(yz:xs.length<64)(hs:∀d∈xs,∃i ds,d=.tup (.int i::ds))(hd:(xs.map nR).Nodup)
 (ho:∀ys,lJ nR xs ys->ys=out):PL G n [.list xs] (λvs=>call (.builtin "sorted") vs) (.list out):=by
 have jW:xs.Nodup:=Pairwise.of_map nR (λa b h e=>h (by rw[e])) hd;refine mP (κ:=tuples' (Value.type "int" !=Value.type "tuple")) yz (λA s X vs R rr h2=>?_) (λA s X v w d e C R Iu yx r1 r2 eH hC=>?_) ho jW
 .have key:∀(xs:List D) (vs:List Value),(∀d∈xs,∃i ds,d=D.tup (.int i::ds))->aK G s.heap X xs vs->∃fs,KatTups s.heap vs fs/\fs.length=xs.length/\∀v∈fs,Looks (M G) s.heap (typeOf v) (.type "int"):=by
   intro xs;induction xs with
   |nil=>intro vs _ r;rw[aE.mp r];exact dG [] .nil rfl (λ_ h=>by exact pL h)
   |cons d xs ih=>intro vs hx r;obtain⟨v,u,rfl,hv,hu⟩:=af.mp r;refine bq (ih u (λd hd=>hx d (.tail _ hd)) hu) λfs f1 f2 f3=>?_;(refine iw (hx d (.head _)) λi ds aB=>?_;subst aB);(refine dw (aQ.mp hv) λa ws aB _ DU DY=>?_;clear hv;subst aB;refine uQ DU λo ho hc m kM=>?_;clear DU);(refine bZ (af.mp DY) λf g aB hf _=>?_;clear DY;subst aB);(refine aO (ak.mp hf) λt aB=>?_;clear hf;subst aB);exact dG (_::fs) (KatTups.cons ho hc kM rfl f1) (by simp[f2]) (λv hv=>(Vr.mp hv).elim (λq=>q▸xW) (f3 v))
  refine bq (key xs vs hs rr) λfs f1 f2 f3=>?_;exact kat_kind f1 (by have:=rr.length;exact(A3 [.e K2 Va,.q Vb Vc,.q Va Vc] (.l K0 Vb)) h2 f2 this) f3 (by rfl) ⟨rfl,rfl⟩
 (refine iw (hs d Iu) λi ds aB=>?_;subst aB);(refine iw (hs e yx) λj es aB=>?_;subst aB);obtain⟨a,ws,rfl,_,⟨o,ho,hc,m,kM⟩,DY⟩:=aQ.mp r1;(refine bZ (af.mp DY) λf g aB hf _=>?_;clear DY;subst aB);(refine aO (ak.mp hf) λt aB=>?_;clear hf;subst aB);obtain⟨a',Pn,rfl,_,⟨o',iu,Iy,m',Ky⟩,yZ⟩:=aQ.mp r2;(refine bZ (af.mp yZ) λf' g' aB Ir _=>?_;clear yZ;subst aB);(refine aO (ak.mp Ir) λt' aB=>?_;clear Ir;subst aB);have qW:i≠j:=λq=>eH (by subst q;refine aO (Tu.mp Iu) λa1 b1=>?_;refine aO (Tu.mp yx) λa2 b2=>?_;refine aO b1 λh1 e1=>?_;clear b1;refine aO b2 λh2 e2=>?_;clear b2;have:a1=a2:=(getElem_inj hd (h₀:=by simpa using h1) (h₁:=by simpa using h2)).mp (by simp[e1,e2,Dy]);subst this;(refine V3 (V7 e1) ?_;exact e2));refine kat_lt ho kM iu Ky (kat_cons (EqAt.int_int i t j t' _ _ _ _ ?_));rw[show(i==j)=false from TH.mpr qW];exact kat_no (oneLt_int hC)
noncomputable def kj(K:Int):D->Int
 |.list (.int i:: .int j::_)=>i*K+j
 |_=>0
def Bm{K:Int}:kj K (.list (.int i:: .int j::ds))=i*K+j:=rfl
def x5{K:Int}(yz:xs.length<64)(hs:∀d∈xs,∃i j ds,d=.list (.int i:: .int j::ds)/\ -K<2*j/\2*j<K)(hd:(xs.map (kj K)).Nodup)
 (ho:∀ys,lJ (kj K) xs ys->ys=out):PL G n [.list xs] (λvs=>call (.builtin "sorted") vs) (.list out):=by
 have jW:xs.Nodup:=Pairwise.of_map (kj K) (λa b h e=>h (by rw[e])) hd;refine mP (κ:=oneType') yz (λA s X vs R rr h2=>?_) (λA s X v w d e C R Iu yx r1 r2 eH hC=>?_) ho jW
 .refine kas_kind (T:=.type "list") h2 (λv hv=>?_) (by rfl) (by rfl) ⟨rfl,rfl⟩;obtain⟨i,hi,rfl⟩:=Tu.mp hv;have hlen:=rr.length;refine ao (rr.get (i:=i) (d:=xs[i]'(T1 hi hlen)) (SK _)) λv' e1 e2=>?_;rw[SK hi]at e1;obtain rfl:=Option.some.inj e1;refine eR (hs _ (UH (h:=(T1 hi hlen:i<xs.length)))) λa b ds e3 _=>?_;rw[e3]at e2;(refine dw (aA.mp e2) λl ws e4 _ aB _=>?_;refine aO aB λm hl=>?_;clear aB);rw[e4];exact(Looks.ld hl).andThen .now
 (refine fq (hs d Iu) λi j ds aB QJ Lu=>?_;subst aB);(refine fq (hs e yx) λi' j' es aB R3 RZ=>?_;subst aB);obtain⟨a,ws,rfl,_,⟨m,ho⟩,DY⟩:=aA.mp r1;(refine bZ (af.mp DY) λf g aB hf hg=>?_;clear DY;subst aB);(refine aO (ak.mp hf) λt aB=>?_;clear hf;subst aB);(refine bZ (af.mp hg) λf2 g2 aB OP _=>?_;clear hg;subst aB);(refine aO (ak.mp OP) λt2 aB=>?_;clear OP;subst aB);obtain⟨a',Pn,rfl,_,⟨m',iu⟩,yZ⟩:=aA.mp r2;(refine bZ (af.mp yZ) λf' g' aB Ir HM=>?_;clear yZ;subst aB);(refine aO (ak.mp Ir) λt' aB=>?_;clear Ir;subst aB);(refine bZ (af.mp HM) λSd MP aB Jp _=>?_;clear HM;subst aB);(refine aO (ak.mp Jp) λRP aB=>?_;clear Jp;subst aB);have hu:A.in1.in1.units<cLine:=by have:=R.units;refine(?_:A.units+1+1<_);exact(A3 [.l (.a (.a Va (.m 20 Vb)) q0) Vc] (.l (.a fJ K1) Vc)) this
 have Nq:i*K+j≠i'*K+j':=λq=>eH (by refine aO (Tu.mp Iu) λa1 b1=>?_;refine aO (Tu.mp yx) λa2 b2=>?_;refine aO b1 λh1 e1=>?_;clear b1;refine aO b2 λh2 e2=>?_;clear b2;have:a1=a2:=(getElem_inj hd (h₀:=by simpa using h1) (h₁:=by simpa using h2)).mp (by simp[e1,e2,Bm,q]);subst this;(refine V3 (V7 e1) ?_;exact e2));have Jv:∀b:Bool,b=decide (i*K+j<i'*K+j')->C b s:=λb q=>q▸hC;by_cases hi:i=i'
 .subst hi;refine wq (j:=1) hu ho iu rfl rfl (λm v w hm e1 e2=>?_) (Ne.intro λa=>Nq (V4 (HAdd.hAdd (i*K)) a)) (Jv _ ?_)
  .have:m=0:=by exact(A1 [.l Va K1] (.q Va K0)) hm
   subst this;obtain rfl:=Option.some.inj e1;obtain rfl:=Option.some.inj e2;have:=EqAt.int_int (A:=A.in1.in1.in1) (s:=s) i t i t'
   rwa [beq_self_eq_true]at this
  congr 1;apply propext;exact Iff.symm (Int.add_lt_add_iff_left (i*K))
 refine wq (j:=0) hu ho iu rfl rfl (λm v w hm e1 e2=>by exact(U5 _ ‹_›).elim) hi (Jv _ ?_);have hK:0<K:=by exact(I2 [.L (.g Qa) (.m 2 Qb),.L (.m 2 Qb) Qa] (.L K0 Qa)) QJ Lu
 congr 1;apply propext;constructor
 .intro h;have:i' - i>=1:=by exact Int.le_sub_left_of_add_le h
  have h3:(i' - i)*K>=1*K:=Sn this (VK ‹_›);rw[Int.sub_mul]at h3;lia
 intro h;apply SH;intro hn;have:i - i'>=1:=by exact(I2 [.n vQ,.n q9] (.E K1 (.s Qa Qb))) hi hn
 have h3:(i - i')*K>=1*K:=Sn this (VK ‹_›);rw[Int.sub_mul]at h3;lia
end
end
section
variable{G:Gd}{F:Fx}{n:Nat}{ρ:RE}{X:XS}{Φ:Ph}
def set_own(hm:ρ[i]? =some (.own l d)):∀(j:Nat) (sl:Slot),(ρ.set i (.own l d'))[j]? =some sl->(j=i/\sl=.own l d')\/(j≠i/\ρ[j]? =some sl):=λj sl e=>by
 by_cases hj:j=i
 .subst hj;rw[Uk]at e;simp only[V8]at e;split at e
  .obtain rfl:=Option.some.inj e;exact .inl ⟨rfl,rfl⟩
  exact cG e
 rw[Tq (λq=>hj q.symm)]at e;exact .inr ⟨hj,e⟩
def St.mut(S:St G F X ρ h)(hx:F.vars[i]? =some x)(hm:ρ[i]? =some (.own l d))(hs:Heap.SameBut l h h')(ho:bt G h' X l d'):St G F X (ρ.set i (.own l d')) h':=by
 refine dk (S.slots i x _ hx hm) λz1 z2 z3 z4 z5=>?_;have j0:∀y c,F.env.cells.lookup y=some c->c≠l:=λy c e=>jA z5 (S.cells y c e).2.choose_spec;have hold:∀y ov,Holds F.env h y ov->Holds F.env h' y ov:=λy ov z=>by
  rcases z with⟨q1,m,q2,q3⟩|⟨q1,c,q2,q3⟩
  .exact .inl ⟨q1,m,q2.sameBut hs (V9 z4),q3⟩
  exact .inr ⟨q1,c,q2,q3.sameBut hs (j0 y c q2)⟩
 refine S.upd z2 hs ho.live (aO S.ns λm e=>⟨m,e.sameBut hs (V9 z4)⟩) (λy c e=>aO ((S.cells y c e).2) λov q=>⟨ov,q.sameBut hs (j0 y c e)⟩) (by have:=S.len;simpa using this) (λa b c bL cN h1 h2=>?_) λj y sl h1 h2=>?_
 .rcases set_own hm a _ h1 with⟨e1,e2⟩|⟨e1,e2⟩<;>rcases set_own hm b _ h2 with⟨f1,f2⟩|⟨f1,f2⟩
  .simp only[e1,f1]
  .cases e2;exact absurd (S.uk b i l _ _ f2 hm) f1
  .cases f2;exact absurd (S.uk a i l _ _ e2 hm) e1
  exact S.uk a b c _ _ e2 f2
 rcases set_own hm j _ h2 with⟨e1,e2⟩|⟨e1,e2⟩
 .subst e1 e2;rw[hx]at h1;obtain rfl:=Option.some.inj h1;exact⟨z1.imp id (hold _ _),z2,z3,z4,ho⟩
 have sk:=S.slots j y sl h1 e2;induction sl using Slot.casesOn with
 |no=>trivial
 |val d=>refine ao sk λv q1 q2=>?_;clear sk;exact⟨v,hold _ _ q1,Rep.move (b0 z2 hs) _ _ q2⟩
 |own c bL=>refine dk sk λq1 q2 q3 q4 q5=>?_;clear sk;have jc:c≠l:=λq=>e1 (S.uk j i l _ _ (q▸e2) hm);exact⟨q1.imp id (hold _ _),q2,q3,q4,q5.move (λo _ e=>(hs.2 c jc).trans e) (b0 z2 hs)⟩
def St.sq(S:St G F X ρ s.heap)(hx:F.vars[i]? =some x)(hm:ρ[i]? =some (.own l d))(hs:Heap.SameBut l s.heap h')(ho:bt G h' X l d'):gF G F X X ρ (ρ.set i (.own l d')) s {s with heap:=h',toks:=tk}:=by
 refine⟨λb o _ hb e=>(hs.2 b λq=>hb (.inr (.inr ⟨i,d,q▸hm⟩))).trans e,λb o e=>(by
  by_cases q:b=l
  .exact q▸ho.live
  .exact⟨o,(hs.2 b q).trans e⟩),λT=>T.sameBut hs (S.gs.new _ (S.slots i x _ hx hm).2.1),λa q=>?_,λ_ q=>.inl q,λ_ q=>.inl q,rfl,id⟩
 rcases q with q|q|⟨j,bL,q⟩
 .exact .inl (.inl q)
 .exact .inl (.inr (.inl q))
 rcases set_own hm j _ q with⟨e1,e2⟩|⟨e1,e2⟩
 .cases e2;exact .inl (.inr (.inr ⟨i,d,hm⟩))
 exact .inl (.inr (.inr ⟨j,bL,e2⟩))
def mq:Mt "list" (Str.ofString "append") "list.append":=⟨SQ,PySem.F.slot_list_append,PySem.F.type_list_append⟩
def mm:Mt "list" (Str.ofString "insert") "list.insert":=⟨SQ,PySem.F.slot_list_insert,PySem.F.type_list_insert⟩
def oX(S:St G F X ρ s.heap)(hx:F.vars[i]? =some x)(hm:ρ[i]? =some (.own l (.list ds)))(r:Rep G s.heap X d v)(hz:ds.length<=sizeLine)
 (h:∀(h':Heap),St G F X (ρ.set i (.own l (.list (ds++[d])))) h'->gF G F X X ρ (ρ.set i (.own l (.list (ds++[d])))) s {s with heap:=h'}->Q .none {s with heap:=h'}):wpAny (M G) A (call (.builtin "list.append") [.ref l,v]) Q E s:=by
 refine ei (S.slots i x _ hx hm) λz1 z2 z3 z4 vs hl hr=>?_;refine wpAny_list_append_plain hl (λh' lR hs=>?_) (by rw[Ud,hr.length];exact hz);have e:vs.toArray.push v=(vs++[v]).toArray:=by simp
 rw[e]at lR;have ho:bt G h' X l (.list (ds++[d])):=⟨_,lR,(aK.move (b0 z2 hs) _ _ hr).append (a0 (Rep.move (b0 z2 hs) _ _ r) b6)⟩;exact h h' (S.mut hx hm hs ho) (S.sq hx hm hs ho)
def bQ.append(i:Nat)(hx:F.vars[i]? =some x)(hm:ρ[i]? =some (.own l (.list ds)))(a:Ev G F n ρ false e d)(hz:ds.length<=sizeLine)(h:Φ .next (ρ.set i (.own l (.list (ds++[d])))))
 (hd:autoParam ((x==("__debug__":Str))=false) tD)(hn:autoParam ((x==("__classdict__":Str))=false) tD)(eH:autoParam ((x==accN)=false) tD)
 (jl:autoParam (attributeBase (.Name x p) (Str.ofString "append") F.env (eval (.Name x p) F.env)=eval (.Name x p) F.env) tR)(dH:autoParam ((apos.endLine==pos.line)=true) tR)
 (zc:autoParam (((backTo pos (starEach [e] F.env)).all (λx=> !x.1)&&(backToKw pos (keywordEach [] F.env)).all (λx=>x.1.isSome)
  &&decide ([e].length+([]:List Keyword).length+(if([]:List Keyword).isEmpty then 0 else 1)<30))=true) tR)
 (he:autoParam (starEach [e] F.env=(false,eval e F.env)::starEach [] F.env) tR)
 (hi:autoParam (interactive F.env=false) tR)(hs:autoParam (swapsWith (.Call (.Attribute (.Name x p) (Str.ofString "append") apos) [e] [] pos) none q.line F.env=pure false) tR):
 bQ G F n ρ (.Expr (.Call (.Attribute (.Name x p) (Str.ofString "append") apos) [e] [] pos) q) Φ:=λA s X R S=>by
 refine wpAny_Expr_any ?_ hi hs;refine ei (S.slots i x _ hx hm) λz1 z2 z3 z4 vs hl hr=>?_;replace z1:=z1.resolve_left (fP eH);refine SY jl zc dH rfl (VY (dy S.ok z1 ?_ hn) hd);refine⟨_,_,mq.plain,mq.slot,mq.ty,hl.isList.typeIs,λb e=>by cases e;exact aO hl λm e=>⟨_,e,rfl⟩,?_⟩;refine callWith_method1 ?_ he rfl;refine UK (ay (a A s X R S) (λv aw h1 h2=>U8 ?_)) he;exact oX (S.ext h1) hx hm h2 hz λh' S' st=>⟨X,_,.next,h,S',(gF.c8 h1).trans S st,rfl⟩
def bQ.insert{k:Nat}(i:Nat)(hx:F.vars[i]? =some x)(hm:ρ[i]? =some (.own l (.list ds)))(a:b8 G F n ρ false [dE,cS] [.int k,d])(hz:ds.length<=sizeLine)(hk:k<=ds.length)(h:Φ .next (ρ.set i (.own l (.list (ds.take k++d::ds.drop k)))))
 (hd:autoParam ((x==("__debug__":Str))=false) tD)(hn:autoParam ((x==("__classdict__":Str))=false) tD)(eH:autoParam ((x==accN)=false) tD)
 (jl:autoParam (attributeBase (.Name x p) (Str.ofString "insert") F.env (eval (.Name x p) F.env)=eval (.Name x p) F.env) tR)(dH:autoParam ((apos.endLine==pos.line)=true) tR)
 (zc:autoParam (((backTo pos (starEach [dE,cS] F.env)).all (λx=> !x.1)&&(backToKw pos (keywordEach [] F.env)).all (λx=>x.1.isSome)
  &&decide ([dE,cS].length+([]:List Keyword).length+(if([]:List Keyword).isEmpty then 0 else 1)<30))=true) tR)
 (he:autoParam (starEach [dE,cS] F.env=(false,eval dE F.env)::starEach [cS] F.env) tR)(dR:autoParam ((backTo pos (starEach [cS] F.env)).any (·.1)=false) tR)
 (hi:autoParam (interactive F.env=false) tR)(hs:autoParam (swapsWith (.Call (.Attribute (.Name x p) (Str.ofString "insert") apos) [dE,cS] [] pos) none q.line F.env=pure false) tR):
 bQ G F n ρ (.Expr (.Call (.Attribute (.Name x p) (Str.ofString "insert") apos) [dE,cS] [] pos) q) Φ:=λA s X R S=>by
 refine wpAny_Expr_any ?_ hi hs;refine ei (S.slots i x _ hx hm) λz1 z2 z3 z4 vs hl hr=>?_;replace z1:=z1.resolve_left (fP eH);refine SY jl zc dH rfl (VY (dy S.ok z1 ?_ hn) hd);refine⟨_,_,mm.plain,mm.slot,mm.ty,hl.isList.typeIs,λb e=>by cases e;exact aO hl λm e=>⟨_,e,rfl⟩,?_⟩;refine callWith_method1 ?_ he dR;refine ay (a A s X _ R S) (λws aw h1 h2=>?_);obtain⟨fK,dK,rfl,EB,h3⟩:=af.mp h2;(refine bZ (af.mp h3) λey dJ aB Km h4=>?_;clear h3;subst aB);obtain rfl:=aE.mp h4;(refine aO (ak.mp EB) λt aB=>?_;clear EB;subst aB);have S1:=S.ext h1;(refine ei (S1.slots i x _ hx hm) λRN NY RM RL r9 aB uj=>?_;obtain⟨m,lR⟩:=aB);have hlen:=uj.length;have hsz:r9.toArray.size<=sizeLine:=by rw[Ud,hlen];exact hz
 have Mw:(k:Int)<2^24+1:=by simp only[VR]at hz;exact(A2 [.e Va Vb,.e Vb kF] (.L bA (.a kF K1))) hk hz
 have Il:(0:Int)<=k:=by exact TY _
 have HJ:(k:Int).toNat=k:=by exact Nat.sub_zero _
 revert Mw Il HJ;generalize(k:Int)=kk;revert kk;refine nz ?_;intro kk;intro Mw Il HJ;have Ny:¬(!Builtin.List.listFitsIndex kk)=true:=by
  have:Builtin.List.listFitsIndex kk=true:=by unfold Builtin.List.listFitsIndex;simp only[Uw,Ue,Ue];exact(I1 [.L Qa (.a kF K1),.E K0 Qa] LI) Mw Il
  rw[this];decide
 have hM:=AutoListH.list_insert_list_int_val_1 l r9.toArray m kk t ey Ny hsz;refine call_meets PySem.F.slot_list_insert ⟨_,lR,rfl⟩ PySem.F.entry_list_insert (PySem.F.args_list_insert_3 _ _ _) hM ⟨lR,?_⟩;have e1:(have k:=if kk<0 then(kk+((r9.toArray.size:Nat):Int)).toNat else min kk.toNat r9.toArray.size;(r9.toArray.extract 0 k).push ey++r9.toArray.extract k)=(r9.take k++ey::r9.drop k).toArray:=by
  have e8:(if kk<0 then(kk+((r9.toArray.size:Nat):Int)).toNat else min kk.toNat r9.toArray.size)=k:=by (refine V3 (if_neg (V0.mpr ‹_›)) ?_;refine Eq.substr Ud ?_;refine Eq.substr hlen ?_;refine Eq.substr HJ ?_);exact U3 hk
  dsimp only;rw[e8];apply Array.toList_inj.mp;simp[SU]
 generalize hf:(λxs:Array Value=>have k:=if kk<0 then(kk+((xs.size:Nat):Int)).toNat else min kk.toNat xs.size;(xs.extract 0 k).push ey++xs.extract k)=f;have e2:f r9.toArray=(r9.take k++ey::r9.drop k).toArray:=by rw[<-hf];exact e1
 have cb:=TS aw.heap l (Obj.mapSeq f);have hg:=Vj (c:="list") lR f;rw[e2]at hg;have ho:bt G (aw.heap.update l (Obj.mapSeq f)) X l (.list (ds.take k++d::ds.drop k)):=by have w7:=aK.move (b0 NY cb) _ _ uj;exact⟨r9.take k++ey::r9.drop k,⟨_,hg⟩,(w7.take k).append (a0 (Rep.move (b0 NY cb) _ _ Km) (w7.drop k))⟩
 exact⟨X,_,.next,h,S1.mut hx hm cb ho,(gF.c8 h1).trans S (S1.sq hx hm cb ho),rfl⟩
def xH{vs:List Value}{k:Int}(hl:s.heap.PlainList l vs.toArray)(h0:0<=k)(hn:k<vs.length)(hz:k<2^40)
 (h:∀h',h'.PlainList l (vs.set k.toNat v).toArray->Heap.SameBut l s.heap h'->Q () {s with heap:=h'}):wpAny (M G) A (setItem (.ref l) (.int k t) v) Q E s:=by
 refine aO hl λm ho=>?_;clear hl;have hT:s.TypeIs (.ref l) "list":=⟨_,ho,rfl⟩;unfold setItem
 try with_reducible refine Vx ?_
 refine VU (wpAny_sequenceKey hT (by rfl) ?_);refine VU (SP (name:=Str.ofString "__setitem__") hT slot_list_setitem (UQ slot_list_setitem hT entry_list_setitem ?_ (args_list_setitem _ _ _)));refine(?_:wpAny _ _ (Builtin.List.listSubscript? (.int k t)>>=_) _ _ s);have hf:=fitsIndex_of h0 (show k<2^63 by exact(I1 [.L Qa o9] (.L Qa yP)) hz);refine VU (wpAny_listSubscript_int hf ?_);clear hf hz;(refine aO (eq_ofNat_of_zero_le h0) λj aB=>?_;clear h0;subst aB);have hj:j<vs.length:=by exact VN.mp ‹_›
 have hx:vs.toArray[j]? =some vs[j]:=by simp[hj]
 refine(?_:wpAny _ _ ((seqItemAt l j>>=λr=>pure (r.map (j,·)))>>=_) _ _ s);refine VU (VU (wpAny_seqItemAt ho rfl (VV ?_)));rw[hx];refine(?_:wpAny _ _ (setSeqItemAt l j v>>=_) _ _ s);have hg:=Vj (c:="list") ho (·.setIfInBounds j v);have e:vs.toArray.setIfInBounds j v=(vs.set j v).toArray:=by exact if_pos ‹_›
 rw[e]at hg;refine VU (wpAny_setSeqItemAt ho rfl ?_)
 first
  |exact VU (VV (VV ⟨.none,rfl,VV (h _ ⟨_,hg⟩ (TS ..))⟩))
  |exact VV ⟨.none,rfl,VV (h _ ⟨_,hg⟩ (TS ..))⟩
def th{vs:List Value}{j:Nat}{v:Value}(hl:s.heap.PlainList l vs.toArray)(hj:j<vs.length)(hz:vs.length<2^40)
 (h:∀h',h'.PlainList l (vs.set j v).toArray->Heap.SameBut l s.heap h'->Q () {s with heap:=h'}):wpAny (M G) A (setItem (.ref l) (.int (j:Int) t) v) Q E s:=
 xH hl (TY _) (VN.mpr ‹_›) ((A2 [.l Va Vb,.l Vb o9] (.L bA o9)) hj hz) h
def bQ.MZ{l:Addr}{j:Nat}(i:Nat)(hx:F.vars[i]? =some x)(hm:ρ[i]? =some (.own l (.list ds)))(a:Ev G F n ρ false e d)(b:Ev G F n ρ true ie (.int (j:Int)))(hj:j<ds.length)(hz:ds.length<2^40)
 (h:Φ .next (ρ.set i (.own l (.list (ds.set j d)))))
 (hd:autoParam ((x==("__debug__":Str))=false) tD)(hn:autoParam ((x==("__classdict__":Str))=false) tD)(eH:autoParam ((x==accN)=false) tD)
 (hs:autoParam (swapsWith e (some (.Subscript (.Name x p) ie tp)) pos.line F.env=pure false) tR):bQ G F n ρ (.Assign [.Subscript (.Name x p) ie tp] e pos) Φ:=λA s X R S=>by
 refine wpAny_Assign_Subscript (ay (a A s X R S) (λv aw h1 h2=>?_)) hs;have S1:=S.ext h1;refine cu (S1.slots i x _ hx hm) λz1 _=>?_;refine VY (dy S1.ok (z1.resolve_left (fP eH)) ?_ hn) hd;refine ay (b A aw X R S1) (λu au h3 h4=>?_);obtain⟨t,rfl⟩:=ak.mp h4;have S2:=S1.ext h3;refine ei (S2.slots i x _ hx hm) λy1 y2 y3 y4 vs hl hr=>?_;refine th hl (by rw[hr.length];exact hj) (by rw[hr.length];exact hz) λh' lR cb=>?_;have ho:bt G h' X l (.list (ds.set j d)):=⟨_,lR,(aK.move (b0 y2 cb) _ _ hr).set j (Rep.move (b0 y2 cb) _ _ (h3.rep h2))⟩;exact⟨X,_,.next,h,S2.mut hx hm cb ho,(gF.c8 (h1.trans h3)).trans S (S2.sq (tk:=au.toks) hx hm cb ho),rfl⟩
def bQ.NT{l:Addr}{j:Nat}(i:Nat)(hx:F.vars[i]? =some x)(hm:ρ[i]? =some (.own l (.list ds)))(b:Ev G F n ρ true ie (.int (j:Int)))(hj:ds[j]? =some bL)(a:Ev G F n ρ false e cN)(q:P2 G n bL cN (inplaceOp op) d)(hz:ds.length<2^40)
 (h:Φ .next (ρ.set i (.own l (.list (ds.set j d)))))
 (hd:autoParam ((x==("__debug__":Str))=false) tD)(hn:autoParam ((x==("__classdict__":Str))=false) tD)(eH:autoParam ((x==accN)=false) tD)
 (hi:autoParam (∀ov iv new,augStore ie ov iv new=(do holding [new,ov,iv] (setItem ov iv new);release [new,ov,iv] [];pure .next)) tIs):bQ G F n ρ (.AugAssign (.Subscript (.Name x p) ie tp) op e pos) Φ:=λA s X R S=>by
 refine wpAny_AugAssign_SubscriptAny ?_ hi;refine cu (S.slots i x _ hx hm) λz1 _=>?_;refine VY (dy S.ok (z1.resolve_left (fP eH)) ?_ hn) hd;refine ay (b A s X R S) (λu aw h1 h2=>?_);obtain⟨t,rfl⟩:=ak.mp h2;have S1:=S.ext h1;refine ei (S1.slots i x _ hx hm) λy1 y2 y3 y4 vs hl hr=>?_;refine ao (hr.get hj) λfK e1 e2=>?_;refine oH (j:=j) hl.isList e1 (.inl rfl) (by have:=(SF.mp hj).1;exact Nat.lt_trans ‹_› ‹_›) (by rw[hr.length];exact hz) ?_;refine ay (a A aw X R S1) (λey au h3 h4=>?_);have S2:=S1.ext h3;refine ay (q A au X fK ey R S2.gs (h3.rep e2) h4) (λz d7 h5 h6=>?_);have S3:=S2.ext h5;refine ei (S3.slots i x _ hx hm) λw1 w2 w3 w4 us Mv yI=>?_;refine th Mv (by rw[yI.length];exact(SF.mp hj).1) (by rw[yI.length];exact hz) λh' lR cb=>?_;have ho:bt G h' X l (.list (ds.set j d)):=⟨_,lR,(aK.move (b0 w2 cb) _ _ yI).set j (Rep.move (b0 w2 cb) _ _ h6)⟩;exact⟨X,_,.next,h,S3.mut hx hm cb ho,(gF.c8 ((h1.trans h3).trans h5)).trans S (S3.sq (tk:=d7.toks) hx hm cb ho),rfl⟩
noncomputable def put{κ:Type}[DecidableEq κ](aH:List (κ×D))(k:κ)(d:D):List (κ×D):=if aH.any (λkv=>kv.1=k)then aH.map (λkv=>if kv.1=k then(kv.1,d)else kv)else aH++[(k,d)]
def cT.append:∀{ds es:List (Int×D)} {vs us:List (Int×Value)},cT G h X ds vs->cT G h X es us->cT G h X (ds++es) (vs++us):=by
 intro l';induction l' with
 |nil=>exact @λ_ _ _ x y=>by rw[eX.mp x];exact y
 |cons y' HX aU=>obtain⟨_,_⟩:=y';exact @λ_ _ _ x y=>by obtain⟨v,r,rfl,hv,hr⟩:=cL.mp x;exact ij hv (aU hr y)
def cT.put(r:cT G h X aH vs)(q:Rep G h X d v):cT G h X (Mine.put aH k d) (stored vs k v):=by
 have F4:∀{aH:List (Int×D)} {vs:List (Int×Value)},cT G h X aH vs->(aH.any λkv=>kv.1=k)=(vs.any λkv=>kv.1=k):=by
  intro aH;induction aH with
  |nil=>intro vs r;rw[eX.mp r];rfl
  |cons p aH ih=>intro vs r;obtain⟨a,b⟩:=p;obtain⟨u,w,rfl,_,hw⟩:=cL.mp r;simp only[any_cons,any_cons,ih hw]
 have FW:∀{aH:List (Int×D)} {vs:List (Int×Value)},cT G h X aH vs->cT G h X (aH.map λkv=>if kv.1=k then(kv.1,d)else kv) (vs.map λkv=>if kv.1=k then(kv.1,v)else kv):=by
  intro aH;induction aH with
  |nil=>intro vs r;rw[eX.mp r];exact ly
  |cons p aH ih=>
   intro vs r;obtain⟨a,b⟩:=p;obtain⟨u,w,rfl,hu,hw⟩:=cL.mp r;rw[Vt,Vt];by_cases ha:a=k
   .simp only[ha,V8];exact ij q (ih hw)
   simp only[ha,V6];exact ij hu (ih hw)
 unfold Mine.put stored;rw[F4 r];split
 ·exact FW r
 exact r.append (ij q ly)
def dN.append:∀{ds es:List (Str×D)} {vs us:List (Str×Value)},dN G h X ds vs->dN G h X es us->dN G h X (ds++es) (vs++us):=by
 intro l';induction l' with
 |nil=>exact @λ_ _ _ x y=>by rw[dZ.mp x];exact y
 |cons y' HX aU=>obtain⟨_,_⟩:=y';exact @λ_ _ _ x y=>by obtain⟨v,r,rfl,hv,hr⟩:=dc.mp x;exact jN hv (aU hr y)
def dN.put(r:dN G h X aH vs)(q:Rep G h X d v):dN G h X (Mine.put aH k d) (stored vs k v):=by
 have F4:∀{aH:List (Str×D)} {vs:List (Str×Value)},dN G h X aH vs->(aH.any λkv=>kv.1=k)=(vs.any λkv=>kv.1=k):=by
  intro aH;induction aH with
  |nil=>intro vs r;rw[dZ.mp r];rfl
  |cons p aH ih=>intro vs r;obtain⟨a,b⟩:=p;obtain⟨u,w,rfl,_,hw⟩:=dc.mp r;simp only[any_cons,any_cons,ih hw]
 have FW:∀{aH:List (Str×D)} {vs:List (Str×Value)},dN G h X aH vs->dN G h X (aH.map λkv=>if kv.1=k then(kv.1,d)else kv) (vs.map λkv=>if kv.1=k then(kv.1,v)else kv):=by
  intro aH;induction aH with
  |nil=>intro vs r;rw[dZ.mp r];exact ow
  |cons p aH ih=>
   intro vs r;obtain⟨a,b⟩:=p;obtain⟨u,w,rfl,hu,hw⟩:=dc.mp r;rw[Vt,Vt];by_cases ha:a=k
   .simp only[ha,V8];exact jN q (ih hw)
   simp only[ha,V6];exact jN hu (ih hw)
 unfold Mine.put stored;rw[F4 r];split
 ·exact FW r
 exact r.append (jN q ow)
def bQ.yR(i:Nat)(hx:F.vars[i]? =some x)(hm:ρ[i]? =some (.own l (.aG aH)))(a:Ev G F n ρ false e d)(b:Ev G F n ρ true ie (.int j))(hz:aH.length<=sizeLine)
 (h:Φ .next (ρ.set i (.own l (.aG (put aH j d)))))
 (hd:autoParam ((x==("__debug__":Str))=false) tD)(hn:autoParam ((x==("__classdict__":Str))=false) tD)(eH:autoParam ((x==accN)=false) tD)
 (hs:autoParam (swapsWith e (some (.Subscript (.Name x p) ie tp)) pos.line F.env=pure false) tR):bQ G F n ρ (.Assign [.Subscript (.Name x p) ie tp] e pos) Φ:=λA s X R S=>by
 refine wpAny_Assign_Subscript (ay (a A s X R S) (λv aw h1 h2=>?_)) hs;have S1:=S.ext h1;refine cu (S1.slots i x _ hx hm) λz1 _=>?_;refine VY (dy S1.ok (z1.resolve_left (fP eH)) ?_ hn) hd;refine ay (b A aw X R S1) (λu au h3 h4=>?_);obtain⟨t,rfl⟩:=ak.mp h4;have S2:=S1.ext h3;refine gf (S2.slots i x _ hx hm) λy1 y2 y3 y4 lo vs hl hr=>?_;refine wpAny_setItem_pairs (intKind_is _ _ j t) hl (λh' lR cb=>?_) (by rw[hr.length];exact hz);have ho:bt G h' X l (.aG (put aH j d)):=⟨lo,_,lR,(cT.move (b0 y2 cb) _ _ hr).put (Rep.move (b0 y2 cb) _ _ (h3.rep h2))⟩;exact⟨X,_,.next,h,S2.mut hx hm cb ho,(gF.c8 (h1.trans h3)).trans S (S2.sq (tk:=au.toks+1) hx hm cb ho),rfl⟩
def bQ.FD(i:Nat)(hx:F.vars[i]? =some x)(hm:ρ[i]? =some (.own l (.cF aH)))(a:Ev G F n ρ false e d)(b:Ev G F n ρ true ie (.str j))(hz:aH.length<=sizeLine)
 (h:Φ .next (ρ.set i (.own l (.cF (put aH j d)))))
 (hd:autoParam ((x==("__debug__":Str))=false) tD)(hn:autoParam ((x==("__classdict__":Str))=false) tD)(eH:autoParam ((x==accN)=false) tD)
 (hs:autoParam (swapsWith e (some (.Subscript (.Name x p) ie tp)) pos.line F.env=pure false) tR):bQ G F n ρ (.Assign [.Subscript (.Name x p) ie tp] e pos) Φ:=λA s X R S=>by
 refine wpAny_Assign_Subscript (ay (a A s X R S) (λv aw h1 h2=>?_)) hs;have S1:=S.ext h1;refine cu (S1.slots i x _ hx hm) λz1 _=>?_;refine VY (dy S1.ok (z1.resolve_left (fP eH)) ?_ hn) hd;refine ay (b A aw X R S1) (λu au h3 h4=>?_);obtain⟨t,rfl⟩:=aM.mp h4;have S2:=S1.ext h3;refine gf (S2.slots i x _ hx hm) λy1 y2 y3 y4 lo vs hl hr=>?_;refine wpAny_setItem_pairs (strKind_is _ _ j t) hl (λh' lR cb=>?_) (by rw[hr.length];exact hz);have ho:bt G h' X l (.cF (put aH j d)):=⟨lo,_,lR,(dN.move (b0 y2 cb) _ _ hr).put (Rep.move (b0 y2 cb) _ _ (h3.rep h2))⟩;exact⟨X,_,.next,h,S2.mut hx hm cb ho,(gF.c8 (h1.trans h3)).trans S (S2.sq (tk:=au.toks+1) hx hm cb ho),rfl⟩
def bQ.Gg(i:Nat)(hx:F.vars[i]? =some x)(hm:ρ[i]? =some (.own l (.aG aH)))(b:Ev G F n ρ true ie (.int j))(hj:look aH j=some bL)(a:Ev G F n ρ false e cN)(q:P2 G n bL cN (inplaceOp op) d)(hz:aH.length<=sizeLine)
 (h:Φ .next (ρ.set i (.own l (.aG (put aH j d)))))
 (hd:autoParam ((x==("__debug__":Str))=false) tD)(hn:autoParam ((x==("__classdict__":Str))=false) tD)(eH:autoParam ((x==accN)=false) tD)
 (hi:autoParam (∀ov iv new,augStore ie ov iv new=(do holding [new,ov,iv] (setItem ov iv new);release [new,ov,iv] [];pure .next)) tIs):bQ G F n ρ (.AugAssign (.Subscript (.Name x p) ie tp) op e pos) Φ:=λA s X R S=>by
 refine wpAny_AugAssign_SubscriptAny ?_ hi;refine cu (S.slots i x _ hx hm) λz1 _=>?_;refine VY (dy S.ok (z1.resolve_left (fP eH)) ?_ hn) hd;refine ay (b A s X R S) (λu aw h1 h2=>?_);obtain⟨t,rfl⟩:=ak.mp h2;have S1:=S.ext h1;refine gf (S1.slots i x _ hx hm) λy1 y2 y3 y4 lo vs hl hr=>?_;refine ao ((hr.look j).1 bL hj) λfK e1 e2=>?_;refine wpAny_getItem_of (intKind_is _ _ j t) hl.mapOf e1 ?_;have ht:Ext G aw {aw with toks:=aw.toks+1}:=.toks;refine ay (a A _ X R (S1.ext ht)) (λey au h3 h4=>?_);have S2:=(S1.ext ht).ext h3;refine ay (q A au X fK ey R S2.gs ((ht.trans h3).rep e2) h4) (λz d7 h5 h6=>?_);have S3:=S2.ext h5;refine gf (S3.slots i x _ hx hm) λw1 w2 w3 w4 RU us Mv yI=>?_;refine wpAny_setItem_pairs (intKind_is _ _ j t) Mv (λh' lR cb=>?_) (by rw[yI.length];exact hz);have ho:bt G h' X l (.aG (put aH j d)):=⟨lo,_,lR,(cT.move (b0 w2 cb) _ _ yI).put (Rep.move (b0 w2 cb) _ _ h6)⟩;exact⟨X,_,.next,h,S3.mut hx hm cb ho,(gF.c8 (((h1.trans ht).trans h3).trans h5)).trans S (S3.sq (tk:=d7.toks+1) hx hm cb ho),rfl⟩
def bQ.DO(i j:Nat)(kx:d6 F i x)(ky:d6 F j y)(a:Ev G F n ρ false e d)(h:Φ .next ((ρ.set i (.val d)).set j (.val d)))
 (hw:autoParam (swappedStores [.Name x p,.Name y q] e F.env=pure none) tR):bQ G F n ρ (.Assign [.Name x p,.Name y q] e pos) Φ:=λA s X R S=>
 wpAny_Assign_two (ay (a A s X R S) (λv aw h1 h2=>by have S1:=S.ext h1;refine ay (As.name (G:=G) (F:=F) (n:=n) (p:=p) i kx A aw X v R S1 h2) (λ_ au S2 p2=>?_);have r2:Rep G au.heap X d v:=Rep.move (p2.ok S1.mz) _ _ h2;exact ay (As.name (G:=G) (F:=F) (n:=n) (p:=q) j ky A au X v R S2 r2) (λ_ d7 S3 p3=>⟨X,_,.next,h,S3,(gF.c8 h1).trans S (p2.trans S1 p3),rfl⟩))) rfl hw
def bQ.zQ(Inv:Nat->RE->Prop)(N:Nat)(h0:Inv N ρ)
 (turn:∀m az,Inv m az->∃b,cv G F n az t b/\(b=true->Ex G F n az body λfl kG=>match fl with|.next=>∃m',m'<m/\Inv m' kG|fl=>Φ fl kG)/\(b=false->Φ .next az)):
 bQ G F n ρ (.While t body [] pos) Φ:=λA s X R S=>by
 refine wpAny_While (codeAny_mono (codeAny_whileLoop (λm s'=>∃X' az,Inv m az/\St G F X' az s'.heap/\gF G F X X' ρ az s s') (R:=λr s'=>match r with|.ok f=>uH G F ρ X s Φ f s'|.error e=>ff e s') (λm s' M9=>bZ M9 λX' az hi S' st=>?_) N ⟨X,ρ,h0,S,.refl⟩) λr s' hr=>?_)
 .refine bq (turn m az hi) λb ht hb hf=>?_;refine sr (ht A s' X' R S') λc aw h1 h2=>?_;subst h1;have S1:=S'.ext h2;have iX:=st.trans S (gF.c8 h2);induction c using Bool.casesOn with
  |true=>
   refine mr (hb rfl A aw X' R S1) λf au JJ ck fl a1 a2 a3 a4=>?_;induction fl using Fl.casesOn with
   |next=>cases a4;refine ao a1 λm' h1 h2=>?_;clear a1;exact Bj m' h1 JJ ck h2 a2 (iX.trans S a3)
   |ret d=>(refine ao a4 λv aB hv=>?_;clear a4;subst aB);exact⟨JJ,ck,.ret d,a1,a2,iX.trans S a3,v,rfl,hv⟩
  |false=>exact wpAny_execs_nil ⟨X',az,.next,hf rfl,S1,iX,rfl⟩
 induction r using Except.casesOn with
 |ok f=>exact hr
 |error e=>exact hr.elim
end
section
variable{G:Gd}{F:Fx}{n:Nat}{ρ:RE}
noncomputable def NV(G:Gd)(F:Fx)(N:Nat)(Inv:Nat->List D->RE->Prop)(l I:Addr)(X:XS)(ρ:RE)(au:Shared)(k:Nat)(s':Shared):Prop:=∃i ds X' az,k=N - i/\Inv i ds az/\St G F X' az s'.heap/\s'.heap.IsListIter I l i/\gD G F (λb=>b=I) (λb=>X b\/b=I) X' ρ az au s'/\X' I
def bQ.F6(m N:Nat)(hx:F.vars[m]? =some x)(Inv:Nat->List D->RE->Prop)(hm:ρ[m]? =some (.own l (.list ES)))(h0:Inv 0 ES ρ)
 (hI:∀i ds az,Inv i ds az->az[m]? =some (.own l (.list ds))/\i<=ds.length/\ds.length<=N)
 (turn:∀i ds d az,ds[i]? =some d->Inv i ds az->∃eD,As G F n az t d eD/\Ex G F n eD body (λfl ck=>match fl with|.next=>∃LG,Inv (i+1) LG ck|fl=>Φ fl ck))
 (fin:∀ds az,Inv ds.length ds az->Φ .next az)
 (hd:autoParam ((x==("__debug__":Str))=false) tD)(hn:autoParam ((x==("__classdict__":Str))=false) tD)(eH:autoParam ((x==accN)=false) tD)
 (hs:autoParam (∀v,foldedSetIterable (.Name x p) F.env v=pure v) tIs):bQ G F n ρ (.For t (.Name x p) body [] pos) Φ:=λA s X R S=>by
 refine ei (S.slots m x _ hx hm) λz1 z2 z3 z4 Pj OH Ml=>?_;replace z1:=z1.resolve_left (fP eH);refine wpAny_For (VY (dy S.ok z1 ?_ hn) hd) hs;have cB:l<s.heap.objs.size:=aO OH λ_ e=>VD e;refine wpAny_pyIter_list OH.isList ?_;generalize O0:s.heap.objs.size=I;revert I;refine nz ?_;intro I;intro;generalize Lm:({s with heap:=s.heap.push {cls:=.type "list_iterator",data:=.fields #[.ref l,.int 0 0]}}:Shared)=au;revert au;refine nz ?_;intro au;intro;have ex:Ext G s au:=Lm▸ .push;have hIn:s.heap.get? I=none:=by rw[<-O0];exact b9 _
 have Ly:au.heap.IsListIter I l 0:=by rw[<-Lm,<-O0];exact⟨_,TG _ rfl,rfl,rfl⟩
 have Le:¬X I:=λq=>by refine aO (S.gs.live I q) λo e=>?_;rw[hIn]at e;exact cG e
 have S2:St G F (λb=>X b\/b=I) ρ au.heap:=S.sR (wr:=λb=>b=I) ex (λb hb=>hb▸hIn) (λb hb=>hb▸ao Ly λo e _=>⟨o,e⟩);have Qi:∀az:RE,(∀a,Wr F az a->Wr F ρ a\/au.heap.get? a=none)->¬Wr F az I:=λaz h q=>by
  rcases h I q with q|q
  .exact Le (S.mz I q)
  refine ao Ly λo e _=>?_;clear Ly;rw[q]at e;exact cG e
 have yt:∀az:RE,(∀a,Wr F az a->Wr F ρ a\/au.heap.get? a=none)->∀b,b=I->¬Wr F az b/\¬F.aD b/\∀x,F.env.cells.lookup x≠some b:=λaz h b hb=>by
  (replace hb:=V7 hb;subst hb)
  exact⟨Qi az h,λq=>Le (S.sub _ q),λx q=>Le (S.cells x _ q).1⟩
 have loop:codeAny (M G) A (.forLoop t (.ref I) body [] F.env) (EY G F Φ (λb=>b=I) (λb=>X b\/b=I) ρ au) au:=by
  refine codeAny_forLoop_any (NV G F N Inv l I X ρ au) ?_ N
   ⟨0,ES,_,ρ,rfl,h0,S2,Ly,.refl,.inr rfl⟩
  intro k s' bx;refine mask λC kk=>?_;refine ia bx λi ds X' az hk inv fS=>?_;refine kS fS λS' qU eG HR=>?_;clear bx fS;refine dW (hI i ds az inv) λIi Nv QV=>?_;refine ei (S'.slots m x _ hx Ii) λy1 y2 y3 y4 vs lR uj=>?_;have hlen:vs.toArray.size=ds.length:=by(refine V3 Ud ?_;exact uj.length)
  have mU:=yt az eG.rZ;by_cases cB:i<ds.length
  .have hd:ds[i]? =some ds[i]:=SK cB;refine ao (uj.get hd) λv Mh Mg=>?_;refine ao (turn i ds ds[i] az hd inv) λeD as ex=>kk ?_;refine wpAny_pyNext_list_item qU lR.isList (x:=v) (by simpa using Mh) λh' hit Mj=>?_;dsimp only;refine bq (id hit) λoI Mp QW _=>?_;refine qB (s:={s' with heap:=h'}) Mp QW (T:="list_iterator") (by unfold dS;rfl) ?_;have keep:∀b o,¬b=I->s'.heap.get? b=some o->h'.get? b=some o:=λb o hb e=>(Mj.2 b hb).trans e;have LM:St G F X' az h':=S'.E0 (wr:=λb=>b=I) keep (λb hb=>hb▸HR) mU (λ_ q=>q) (λ_ q=>.inl q) (λa _ q=>q▸⟨oI,Mp⟩);have rep:Rep G h' X' ds[i] v:=Rep.move (λb o _ e hb=>⟨keep b o (λq=>hb (q▸HR)) e,hb⟩) _ _ Mg;refine sr (as A {s' with heap:=h'} X' v R LM rep) λ_ d7 S3 p3=>?_;refine mr (ex A d7 X' R S3) λf df lU ck fl e1 S4 p4 e4=>?_;have pt:gF G F X' lU az ck {s' with heap:=h'} df:=p3.trans LM p4;have p2:gD G F (λb=>b=I) (λb=>X b\/b=I) X' ρ az au {s' with heap:=h'}:=⟨λb o n hb nB e=>keep b o nB (eG.keep b o n hb nB e),λb o nw e=>(aO (eG.there b o nw e) λo' e'=>⟨o',keep b o' nw e'⟩),λT=>(eG.tb T).apart (wr:=λb=>b=I) keep λb q=>S'.gs.new b (q▸HR),eG.rZ,eG.newX,eG.up,eG.os,eG.gens⟩;have p5:gD G F (λb=>b=I) (λb=>X b\/b=I) lU ρ ck au df:=p2.step S2.mz S2.gs.live (λb hb=>.inr hb) (λa q=>q▸⟨oI,Mp⟩) pt;have H2:df.heap.IsListIter I l (i+1):=by refine bq hit λo a b c=>?_;clear hit;exact⟨o,pt.keep I o (c9 b) (mU I rfl).1 a,b,c⟩
   have wX:lU I:=(pt.up I HR).resolve_right (mU I rfl).1;induction fl using Fl.casesOn with
   |next=>cases e4;refine aO e1 λLG IZ=>?_;clear e1;refine dW (hI (i+1) LG ck IZ) λ_ g1 g2=>?_;exact⟨N - (i+1),by subst hk;exact(A3 [.e Va Vb,.l Vc Va] (.l (.s Vb q8) (.s Vb Vc))) QV cB,Exists.intro (i+1) (gy LG lU ck rfl IZ S4 ⟨H2,p5,wX⟩)⟩
   |ret d=>(refine ao e4 λu aB hu=>?_;clear e4;subst aB);exact gy lU ck (.ret d) e1 S4 p5 ⟨u,rfl,hu⟩
  have:i=ds.length:=by exact(A2 [.e Va Vb,.n nE] se) Nv cB
  subst this;refine kk ?_;refine wpAny_pyNext_list_end R.handled qU lR.isList (Array.getElem?_eq_none (VH hlen)) λh' Mj=>?_;dsimp only;refine wpAny_execs_nil ?_;have keep:∀b o,¬b=I->s'.heap.get? b=some o->h'.get? b=some o:=λb o hb e=>Mj b o hb e;have LM:St G F (λb=>X' b/\¬b=I) az h':=S'.E0 (wr:=λb=>b=I) keep (λb hb=>hb▸HR) mU (λ_ q=>q.1) (λa q=>by
   by_cases h:a=I
   .exact .inr h
   .exact .inl ⟨q,h⟩) (λa q1 q2=>absurd q2 q1.2)
  exact gy _ az .next (fin ds az inv) LM ⟨λb o n hb nB e=>keep b o nB (eG.keep b o n hb nB e),λb o nw e=>(aO (eG.there b o nw e) λo' e'=>⟨o',keep b o' nw e'⟩),λT=>(eG.tb T).apart (wr:=λb=>b=I) keep λb q=>S'.gs.new b (q▸HR),eG.rZ,λa q=>eG.newX a q.1,λa q=>by
   by_cases hw:a=I
   .exact .inr (.inr hw)
   .exact(eG.up a q).imp (λz=>⟨z,hw⟩) id,eG.os,eG.gens⟩ rfl
 refine codeAny_mono loop λr s' hr=>?_;induction r using Except.casesOn with
 |error e=>exact hr.elim
 |ok f=>
  refine cQ hr λX' az fl a1 a2 a3 a4=>?_;clear hr;refine⟨X',az,fl,a1,a2,⟨λb o n hb e=>a3.keep b o n hb (λq=>by rw[q,hIn]at e;exact cG e) (ex.keep b o n e),λb o e=>(aO (ex.there b o e) λo' e'=>a3.there b o' (λq=>by rw[q,hIn]at e;exact cG e) e'),λT=>a3.tb (ex.tb T),λa q=>(a3.rZ a q).imp id ex.none,λa q=>?_,λa q=>?_,a3.os.trans ex.os,λg=>a3.gens (ex.gens g)⟩,a4⟩
  .rcases a3.newX a q with(h|h)|h
   .exact .inl h
   .exact .inr (h▸hIn)
   exact .inr (ex.none h)
  rcases a3.up a (.inl q)with h|h|h
  .exact .inl h
  .exact .inr h
  exact absurd (h▸q) Le
end
def ja
 (Ko:A.depth<recursionLimit)(ho:s.heap.get? a=some o)(Kx:o.data=.func (fnOf nm name params body scope dV kV doc pm an cd ct))(CT:s.heap.NoLimit)(xg:s.heap.CodeRec cd name)
 (nU:bindArgs (fnOf nm name params body scope dV kV doc pm an cd ct) ⟨args,[]⟩=pure binds)
 (gm:∀x∈binds,scope.names.lookup x.1=some .local\/(scope.names.lookup x.1=some .cell/\((cellsFrom (s.heap.objs.size+1) scope.names []).lookup x.1).isSome=true))
 (h:∀h₁ tk,Fr s.heap s.heap.objs.size h₁ (bindL (envOfC name scope s.heap.objs.size a cd).kindOf binds λ_=>none)->
  Cl s.heap.objs.size (cellsFrom (s.heap.objs.size+1) scope.names []) h₁ (bindC (envOfC name scope s.heap.objs.size a cd).kindOf binds λ_=>none)->
  wpAny (model prog w) (A.deeper (envOfC name scope s.heap.objs.size a cd)) (execs body (envOfC name scope s.heap.objs.size a cd))
   (λf s'=>R (.ok (.ret (match f with|.ret v=>v|_=>.none))) s') (λ_ _=>False) {s with heap:=h₁,toks:=tk})
 (Cg:autoParam (scope.isCoroutine=false) tR)(uD:autoParam (scope.isGenerator=false) tR)(hk:autoParam (scope.kind=.function) tR):
 codeAny (model prog w) A (.call (.ref a) ⟨args,[]⟩) R s:=by
 refine codeAny_call_cells (fd:=fnOf nm name params body scope dV kV doc pm an cd ct) Ko ho Kx CT xg rfl nU rfl gm (λaw X=>?_) Cg uD hk;obtain⟨h₁,tk,rfl,_⟩:=X.done;exact VW (h h₁ tk ⟨X.toInCall.ns,X.toInCall.keep,X.toInCall.fresh⟩ ⟨X.cell,X.apart,X.above⟩) (λ_ _ x=>x) (λ_ _ x=>x.elim)
section
variable{G:Gd}{n:Nat}
def PL.G4{nm name:Str}{params:Arguments}{body:List Stmt}{scope:Scope}{dV kV doc pm code ct:Value}(ho:G.h₀.get? a=some o)(kM:o.data=.func (fnOf nm name params body scope dV kV doc pm an code ct))(xg:G.h₀.CodeRec code name)(m9:∀c o,code=.ref c->G.h₀.get? c=some o->nv o)(vars:List Str)
 (nT:∀(L a:Addr) (aD:XS),Ex G ⟨envOfC name scope L a code,vars,aD⟩ n (slotsOf vars args) body (λfl _=>fl=.ret r))
 (nU:xu args λvs=>bindArgs (fnOf nm name params body scope dV kV doc pm an code ct) ⟨vs,[]⟩=pure (vars.zip vs))
 (jW:vars.Nodup)(hlen:args.length<=vars.length)
 (gm:∀x∈vars,scope.names.lookup x=some .local\/scope.names.lookup x=some .cell)
 (Cg:autoParam (scope.isCoroutine=false) tR)(uD:autoParam (scope.isGenerator=false) tR)(hk:autoParam (scope.kind=.function) tR):PL G (n+1) args (λvs=>call (.ref a) vs) r:=by
 intro A s X vs R S rl;have oh:∀x k,scope.names.lookup x=some .cell->((cellsFrom k scope.names []).lookup x).isSome=true:=λx k e=>Vo _ _ _ (.inl e);refine wpAny_call (ja (TV (UB _ _) R.depth) (S.base _ _ (lg kM) ho) kM (ao G.nolimit λmc x y=>⟨mc,Ns.b4 x (S.base _),y⟩) (ia xg λc o vs t e g r=>⟨c,o,vs,t,e,S.base _ _ (m9 c o e g) g,r⟩) (nU.at rl.length) (λx hx=>?_) (λh₁ tk d5 hW=>?_) Cg uD hk)
 .obtain⟨x,v⟩:=x;have:=(of_mem_zip hx).1;exact(gm x this).imp id λe=>⟨e,oh x _ e⟩
 exact enter nT jW hlen gm hk R S rl d5 hW
end
section
variable{G:Gd}{F:Fx}{n:Nat}{ρ:RE}
noncomputable def Em(G:Gd)(F:Fx)(n:Nat)(ρ:RE)(t:Sem Unit)(Φ:RE->Prop):Prop:=
 ∀(A:Around) (s:Shared) (X:XS),ec A n->St G F X ρ s.heap->wpAny (M G) A t (λ_ s'=>∃X' az,Φ az/\St G F X' az s'.heap/\gF G F X X' ρ az s s') ff s
def Em.mono(x:Em G F n ρ t Φ)(h:∀az,Φ az->Ψ az):Em G F n ρ t Ψ:=λA s X R S=>VW (x A s X R S) (λ_ _ m8=>d4 m8 λX' az a b=>⟨X',az,h _ a,b⟩) λ_ _ f=>f
noncomputable def lX(G:Gd)(F:Fx)(n:Nat)(ρ:RE)(ifs:List Expr)(b:Bool):Prop:=
 ∀(A:Around) (s:Shared) (X:XS),ec A n->St G F X ρ s.heap->wpAny (M G) A (forIn ifs true λc r=>if r=true then do let ok<-isTrue c F.env (eval c F.env);pure (ForInStep.yield ok)else pure (ForInStep.yield r)) (λc s'=>c=b/\Ext G s s') ff s
def lX.nil:lX G F n ρ [] true:=λA s X R S=>wpAny_tests_nil ⟨rfl,.refl _⟩
def lX.one(x:cv G F n ρ c b):lX G F n ρ [c] b:=λA s X R S=>wpAny_tests_one (x A s X R S)
def pJ(hg:gens[depth]? =some ⟨target,bM,ifs,0⟩)(hn:gens[depth+ 1]? =none):
 compTurn (.ListComp elt gens scope pos) depth it acc env=(do
  standAt bM.pos
  match<-pyNext it with
  |none=>pure (.done .next)
  |some v=>
   letOwnedTupleGo target it v
   assign target env v
   let mut ok:=true
   for c in ifs do
    if ok then ok<-isTrue c env (eval c env)
   if ok then
    (do let _<-call (.builtin "list.append") [acc,<-eval elt env])
   again (.compLoop (.ListComp elt gens scope pos) depth it acc env)):=by
 unfold compTurn;simp only[hg,hn];rfl
def oY(hg:gens[depth]? =some ⟨target,bM,ifs,0⟩)(hn:gens[depth+ 1]? =some ⟨wb,nO,I0,0⟩):
 compTurn (.ListComp elt gens scope pos) depth it acc env=(do
  standAt bM.pos
  match<-pyNext it with
  |none=>pure (.done .next)
  |some v=>
   letOwnedTupleGo target it v
   assign target env v
   let mut ok:=true
   for c in ifs do
    if ok then ok<-isTrue c env (eval c env)
   if ok then
    let x<-eval nO env
    standAt nO.pos
    let x<-foldedSetIterable nO env x;let _<-runOwn (.compStart (.ListComp elt gens scope pos) (depth+1) (<-holding [x] (pyIter x)) acc env) env
   again (.compLoop (.ListComp elt gens scope pos) depth it acc env)):=by
 unfold compTurn;simp only[hg,hn];rfl
def oZ(hg:gens[depth]? =some ⟨target,bM,ifs,0⟩)(hn:gens[depth+ 1]? =none):
 compTurn (.DictComp kx vx gens scope pos) depth it (.ref d) env=(do
  standAt bM.pos
  match<-pyNext it with
  |none=>pure (.done .next)
  |some v=>
   letOwnedTupleGo target it v
   assign target env v
   let mut ok:=true
   for c in ifs do
    if ok then ok<-isTrue c env (eval c env)
   if ok then
    (do
     let kv<-eval kx env;let vv<-holding [kv] (eval vx env)
     standAt {kx.pos with endLine:=vx.pos.endLine,endCol:=vx.pos.endCol}
     holding [kv,vv] (dictSet d kv vv))
   again (.compLoop (.DictComp kx vx gens scope pos) depth it (.ref d) env)):=by
 unfold compTurn;simp only[hg,hn];rfl
noncomputable def iK(e:Expr)(depth:Nat)(acc:Value)(env:Env)(t:Expr)(ifs:List Expr)(inner:Sem Unit):Prop:=
 ∀(M:Model) (A:Around) (it:Value) (R:PySem.Fin->Shared->Prop) (E:Value->Shared->Prop) (s:Shared),
  wpAny M A (pyNext it) (λr aw=>match r with
   |none=>R (.done .next) aw
   |some v=>wpAny M A (letOwnedTupleGo t it v) (λ_ au=>wpAny M A (assign t env v) (λ_ d7=>wpAny M A (forIn ifs true λc r=>if r=true then do let ok<-isTrue c env (eval c env);pure (ForInStep.yield ok)else pure (ForInStep.yield r)) (λok df=>if ok=true then wpAny M A inner (λ_ eK=>wpAny M A (again (.compLoop e depth it acc env)) R E eK) E df else wpAny M A (again (.compLoop e depth it acc env)) R E df) E d7) E au) E aw) E s->
  wpAny M A (compTurn e depth it acc env) R E s
def qg(hg:gens[depth]? =some ⟨target,bM,ifs,0⟩)(hn:gens[depth+ 1]? =none):
 iK (.ListComp elt gens scope pos) depth acc env target ifs (do let _<-call (.builtin "list.append") [acc,<-eval elt env]):=λM A it R E s h=>by
 rw[pJ hg hn];refine VU (Vy (VU (VW h (λr aw h₁=>?_) λ_ _ h'=>h')));induction r using Option.casesOn with
 |none=>exact VV h₁
 |some v=>
  refine VU (VW h₁ (λ_ au h₂=>VU (VW h₂ (λ_ d7 dM=>VU (VW dM (λok df mT=>?_) λ_ _ h'=>h')) λ_ _ h'=>h')) λ_ _ h'=>h');induction ok using Bool.casesOn with
  |false=>exact mT
  |true=>exact VU (VW mT (λ_ _ eL=>eL) λ_ _ h'=>h')
def xA(hg:gens[depth]? =some ⟨target,bM,ifs,0⟩)(hn:gens[depth+ 1]? =none):
 iK (.DictComp kx vx gens scope pos) depth (.ref d) env target ifs (do
  let kv<-eval kx env;let vv<-holding [kv] (eval vx env)
  standAt {kx.pos with endLine:=vx.pos.endLine,endCol:=vx.pos.endCol}
  holding [kv,vv] (dictSet d kv vv)):=λM A it R E s h=>by
 rw[oZ hg hn];refine VU (Vy (VU (VW h (λr aw h₁=>?_) λ_ _ h'=>h')));induction r using Option.casesOn with
 |none=>exact VV h₁
 |some v=>
  refine VU (VW h₁ (λ_ au h₂=>VU (VW h₂ (λ_ d7 dM=>VU (VW dM (λok df mT=>?_) λ_ _ h'=>h')) λ_ _ h'=>h')) λ_ _ h'=>h');induction ok using Bool.casesOn with
  |false=>exact mT
  |true=>exact VU (VW mT (λ_ _ eL=>eL) λ_ _ h'=>h')
def vm(hg:gens[depth]? =some ⟨target,bM,ifs,0⟩)(hn:gens[depth+ 1]? =some ⟨wb,nO,I0,0⟩):
 iK (.ListComp elt gens scope pos) depth acc env target ifs (do
  let x<-eval nO env
  standAt nO.pos
  let x<-foldedSetIterable nO env x;let _<-runOwn (.compStart (.ListComp elt gens scope pos) (depth+1) (<-holding [x] (pyIter x)) acc env) env):=λM A it R E s h=>by
 rw[oY hg hn];refine VU (Vy (VU (VW h (λr aw h₁=>?_) λ_ _ h'=>h')));induction r using Option.casesOn with
 |none=>exact VV h₁
 |some v=>
  refine VU (VW h₁ (λ_ au h₂=>VU (VW h₂ (λ_ d7 dM=>VU (VW dM (λok df mT=>?_) λ_ _ h'=>h')) λ_ _ h'=>h')) λ_ _ h'=>h');induction ok using Bool.casesOn with
  |false=>exact mT
  |true=>have h5:=VU mT;simpa only[bind_assoc,pure_bind,V8]using h5
def j3(I:Nat->Shared->Prop)
 (turn:∀n s,I n s->wpAny (model prog w) A (compTurn (.ListComp elt gens scope pos) depth it acc env) (λfin s'=>match fin with|.done f=>P (.ok f) s'|.again c=>c=.compLoop (.ListComp elt gens scope pos) depth it acc env/\∃m,m<n/\I m s') (λ_ _=>False) s)
 (n:Nat)(h:I n s):codeAny (model prog w) A (.compLoop (.ListComp elt gens scope pos) depth it acc env) P s:=by
 refine codeAny_loop rfl I (λn s hI=>?_) n h;refine(?_:wpAny _ A ((compTurn (.ListComp elt gens scope pos) depth it acc env).onRaise (λx=>do noteFrame x env;theTreesLotGoes x)) _ _ s);exact wpAny_noted (VW (turn n s hI) (λ_ _ h'=>h') λ_ _ f=>f.elim)
def pK(I:Nat->Shared->Prop)
 (turn:∀n s,I n s->wpAny (model prog w) A (compTurn (.DictComp kx vx gens scope pos) depth it acc env) (λfin s'=>match fin with|.done f=>P (.ok f) s'|.again c=>c=.compLoop (.DictComp kx vx gens scope pos) depth it acc env/\∃m,m<n/\I m s') (λ_ _=>False) s)
 (n:Nat)(h:I n s):codeAny (model prog w) A (.compLoop (.DictComp kx vx gens scope pos) depth it acc env) P s:=by
 refine codeAny_loop rfl I (λn s hI=>?_) n h;refine(?_:wpAny _ A ((compTurn (.DictComp kx vx gens scope pos) depth it acc env).onRaise (λx=>do noteFrame x env;theTreesLotGoes x)) _ _ s);exact wpAny_noted (VW (turn n s hI) (λ_ _ h'=>h') λ_ _ f=>f.elim)
def jE(hg:gens[depth]? =some ⟨target,bM,ifs,0⟩)
 (h0:codeAny (model prog w) A (.compLoop (.ListComp elt gens scope pos) depth it acc env) R s)
 (h:wpAny (model prog w) A (pyIter it) (λB9 s'=>codeAny (model prog w) A (.compLoop (.ListComp elt gens scope pos) depth B9 acc env) R s') (λ_ _=>False) s):
 codeAny (model prog w) A (.compStart (.ListComp elt gens scope pos) depth it acc env) R s:=by
 refine codeAny_of_tree ?_;refine(?_:wpAny _ _ ((compStart (.ListComp elt gens scope pos) depth it acc env).onRaise (λx=>do noteFrame x env;standAt theWindowsPlace)) _ _ s);refine wpAny_notedAt ?_;have HM:(clausesOf (.ListComp elt gens scope pos))[depth]? =some ⟨target,bM,ifs,0⟩:=hg;unfold compStart;simp only[HM];refine wpAny_ite_split (λq=>absurd q (by exact Bool.noConfusion ‹_›)) λ_=>?_;refine VU (wpAny_askSetting (wpAny_ite ?_));split
 ·first
   |exact VU (VV (VV (And.intro rfl h0)))
   |exact VV (And.intro rfl h0)
 refine VU (wpAny_rule ?_)
 first
  |exact VU (Vy (VU (VW h (λB9 s' h'=>VV (And.intro rfl h')) λ_ _ x=>x.elim)))
  |(show wpAny _ _ (standAt bM.pos>>=_) _ _ s;exact VU (Vy (VU (VW h (λB9 s' h'=>VV (And.intro rfl h')) λ_ _ x=>x.elim))))
def o6(hg:gens[depth]? =some ⟨target,bM,ifs,0⟩)
 (h0:codeAny (model prog w) A (.compLoop (.DictComp kx vx gens scope pos) depth it acc env) R s)
 (h:wpAny (model prog w) A (pyIter it) (λB9 s'=>codeAny (model prog w) A (.compLoop (.DictComp kx vx gens scope pos) depth B9 acc env) R s') (λ_ _=>False) s):
 codeAny (model prog w) A (.compStart (.DictComp kx vx gens scope pos) depth it acc env) R s:=by
 refine codeAny_of_tree ?_;refine(?_:wpAny _ _ ((compStart (.DictComp kx vx gens scope pos) depth it acc env).onRaise (λx=>do noteFrame x env;standAt theWindowsPlace)) _ _ s);refine wpAny_notedAt ?_;have HM:(clausesOf (.DictComp kx vx gens scope pos))[depth]? =some ⟨target,bM,ifs,0⟩:=hg;unfold compStart;simp only[HM];refine wpAny_ite_split (λq=>absurd q (by exact Bool.noConfusion ‹_›)) λ_=>?_;refine VU (wpAny_askSetting (wpAny_ite ?_));split
 ·first
   |exact VU (VV (VV (And.intro rfl h0)))
   |exact VV (And.intro rfl h0)
 refine VU (wpAny_rule ?_)
 first
  |exact VU (Vy (VU (VW h (λB9 s' h'=>VV (And.intro rfl h')) λ_ _ x=>x.elim)))
  |(show wpAny _ _ (standAt bM.pos>>=_) _ _ s;exact VU (Vy (VU (VW h (λB9 s' h'=>VV (And.intro rfl h')) λ_ _ x=>x.elim))))
end
section
variable{G:Gd}{F:Fx}{n:Nat}{ρ:RE}
structure Lp(G:Gd)(F:Fx)(n:Nat)(ρ:RE)(t:Expr)(ifs:List Expr)(inner:Sem Unit)(ds:List D)(Φ:RE->Prop):Prop where
 ex:∃Inv:Nat->RE->Prop,Inv 0 ρ/\(∀i d az,ds[i]? =some d->Inv i az->∃eD b,As G F n az t d eD/\lX G F n eD ifs b/\(b=true->Em G F n eD inner (Inv (i+1)))/\(b=false->Inv (i+1) eD))/\∀az,Inv ds.length az->Φ az
noncomputable def EZ(G:Gd)(F:Fx)(Φ:RE->Prop)(wr X:XS)(ρ:RE)(s:Shared)(r:Result)(s':Shared):Prop:=∃f,r=.ok f/\f=.next/\∃X' az,Φ az/\St G F X' az s'.heap/\gD G F wr X X' ρ az s s'
def qR(R:ec A n)(S:St G F X ρ s.heap)
 (it:Iter G A t I ds Z Y wr i0)(st:i0 0 s.heap)(BQ:∀b,wr b->X b)(yt:∀b,wr b->¬Wr F ρ b/\¬F.aD b/\∀x,F.env.cells.lookup x≠some b)(hZ:∀a,Wr F ρ a\/s.heap.get? a=none->Z a)(hY:∀a,X a\/s.heap.get? a=none->Y a\/wr a)
 (ht:iK e depth acc F.env t ifs inner)(lp:Lp G F n ρ t ifs inner ds Φ)
 (zC:∀(P:Result->Shared->Prop) (Iv:Nat->Shared->Prop),(∀n s,Iv n s->wpAny (M G) A (compTurn e depth (.ref I) acc F.env) (λfin s'=>match fin with|.done f=>P (.ok f) s'|.again c=>c=.compLoop e depth (.ref I) acc F.env/\∃m,m<n/\Iv m s') (λ_ _=>False) s)->
  ∀(n:Nat) (s:Shared),Iv n s->codeAny (M G) A (.compLoop e depth (.ref I) acc F.env) P s):
 codeAny (M G) A (.compLoop e depth (.ref I) acc F.env) (EZ G F Φ wr X ρ s) s:=by
 have Mf:∀b,wr b->∃o,s.heap.get? b=some o:=λb hb=>S.gs.live b (BQ b hb);refine bq lp.ex λInv h0 turn fin=>?_;refine zC _ (Gj G F ds.length Inv i0 wr X ρ s) ?_ ds.length s
  ⟨0,X,ρ,rfl,VO _,h0,S,st,.refl,BQ⟩
 intro k s' bx;refine cQ bx λi X' az hk hi inv fS=>?_;refine kS fS λS' qU eG mV=>?_;clear bx fS;have mU:∀b,wr b->¬Wr F az b/\¬F.aD b/\∀x,F.env.cells.lookup x≠some b:=λb hb=>by refine⟨λq=>(eG.rZ b q).elim (yt b hb).1 λq=>?_,(yt b hb).2⟩;refine aO (Mf b hb) λo e=>?_;rw[q]at e;exact cG e
 refine ht _ _ _ _ _ _ ?_;by_cases cB:i<ds.length
 .have hd:ds[i]? =some ds[i]:=SK cB;refine qy (it.item i ds[i] s' X' hd qU S'.gs λa q=>hY a (eG.newX a q)) λv aw hq=>?_;dsimp only;refine Ae hq λ_ au zj ext rep live=>?_;refine dw (turn i ds[i] az hd inv) λeD b as ts e1 e2=>?_;have S2:St G F X' az au.heap:=S'.E0 ext.keep mV mU (λ_ q=>q) (λ_ q=>.inl q) (λa _ q=>live a q);refine sr (as A au X' v R S2 rep) λ_ d7 S3 p3=>?_;refine sr (ts A d7 X' R S3) λok df f1 f2=>?_;subst f1;have S4:=S3.ext f2;have p4:gF G F X' X' az eD au df:=p3.trans S2 (gF.c8 f2);have p2:gD G F wr X X' ρ az s au:=⟨λb o n hb nB e=>ext.keep b o nB (eG.keep b o n hb nB e),λb o nw e=>(aO (eG.there b o nw e) λo' e'=>⟨o',ext.keep b o' nw e'⟩),λT=>(eG.tb T).apart ext.keep λb q=>S'.gs.new b (mV b q),eG.rZ,eG.newX,eG.up,ext.os.trans eG.os,λg=>ext.gens (eG.gens g)⟩;have go:∀(eK:Shared) (lU:XS) (ck:RE),Inv (i+1) ck->St G F lU ck eK.heap->gF G F X' lU az ck au eK->wpAny (M G) A (again (.compLoop e depth (.ref I) acc F.env)) (λfin s'=>match fin with
   |.done f=>EZ G F Φ wr X ρ s (.ok f) s'
   |.again c=>c=.compLoop e depth (.ref I) acc F.env/\∃m,m<k/\Gj G F ds.length Inv i0 wr X ρ s m s') (λ_ _=>False) eK:=λeK lU ck i1 S5 pt=>by
   have p5:gD G F wr X lU ρ ck s eK:=p2.step S.mz S.gs.live BQ (λa q=>live a q) pt;have H2:i0 (i+1) eK.heap:=it.frame _ au.heap _ zj λb o n hb e=>pt.keep b o n (λq=>by
    rcases eG.rZ b q with q|q
    .exact hb (hZ b (.inl q))
    .exact hb (hZ b (.inr q))) e
   have wX:∀b,wr b->lU b:=λb hb=>(pt.up b (mV b hb)).resolve_right (mU b hb).1;exact VV ⟨rfl,ds.length - (i+1),hk▸TA ds.length i cB,gy (i+1) lU ck rfl cB i1 ⟨S5,H2,p5,wX⟩⟩
  induction ok using Bool.casesOn with
  |true=>rw[if_pos rfl];exact VW (e1 rfl A df X' R S4) (λ_ eK H4=>bZ H4 λlU ck g1 g2 g3=>go eK lU ck g1 g2 (p4.trans S2 g3)) λ_ _ f=>f.elim
  |false=>rw[if_neg (by decide)];exact go df X' eD (e2 rfl) S4 p4
 have:i=ds.length:=by exact(A2 [.e Va Vb,.n nE] se) hi cB
 subst this;refine wy (it.done s' qU) λaw ext=>?_;dsimp only;have S2:St G F (λb=>X' b/\¬wr b) az aw.heap:=S'.E0 ext.keep mV mU (λ_ q=>q.1) (λa q=>by
  by_cases h:wr a
  .exact .inr h
  .exact .inl ⟨q,h⟩) (λa q1 q2=>absurd q2 q1.2)
 exact yb _ rfl rfl _ az (fin az inv) S2 ⟨λb o n hb nB e=>ext.keep b o nB (eG.keep b o n hb nB e),λb o nw e=>(aO (eG.there b o nw e) λo' e'=>⟨o',ext.keep b o' nw e'⟩),λT=>(eG.tb T).apart ext.keep λb q=>S'.gs.new b (mV b q),eG.rZ,λa q=>eG.newX a q.1,λa q=>by
  by_cases hw:wr a
  .exact .inr (.inr hw)
  .exact(eG.up a q).imp (λz=>⟨z,hw⟩) id,ext.os.trans eG.os,λg=>ext.gens (eG.gens g)⟩
def Em.emit(hx:F.vars[i]? =some x)(hm:ρ[i]? =some (.own l (.list ds)))(a:Ev G F n ρ false elt d)(hz:ds.length<=sizeLine):
 Em G F n ρ (do let _<-call (.builtin "list.append") [.ref l,<-eval elt F.env]) (λaz=>az=ρ.set i (.own l (.list (ds++[d])))):=λA s X R S=>
 VU (ay (a A s X R S) (λv aw h1 h2=>VU (oX (S.ext h1) hx hm h2 hz λh' S' st=>VV ⟨X,_,rfl,S',(gF.c8 h1).trans S st⟩)))
def Em.KH(hx:F.vars[i]? =some x)(hm:ρ[i]? =some (.own l (.aG aH)))(a:Ev G F n ρ true kx (.int j))(b:Ev G F n ρ false vx d)(hz:aH.length<=sizeLine):
 Em G F n ρ (do
  let kv<-eval kx F.env;let vv<-holding [kv] (eval vx F.env)
  standAt {kx.pos with endLine:=vx.pos.endLine,endCol:=vx.pos.endCol}
  holding [kv,vv] (dictSet l kv vv)) (λaz=>az=ρ.set i (.own l (.aG (put aH j d)))):=λA s X R S=>
 VU (ay (a A s X R S) (λkv aw h1 h2=>VU (Vx (ay (b A aw X R (S.ext h1)) (λvv au h3 h4=>VU (Vy (Vx (by obtain⟨t,rfl⟩:=ak.mp h2;have S2:=(S.ext h1).ext h3;refine gf (S2.slots i x _ hx hm) λy1 y2 y3 y4 lo vs hl hr=>?_;refine wpAny_dictSet_pairs (intKind_is _ _ j t) hl (λh' lR cb=>?_) (by rw[hr.length];exact hz);have ho:bt G h' X l (.aG (put aH j d)):=⟨lo,_,lR,(cT.move (b0 y2 cb) _ _ hr).put (Rep.move (b0 y2 cb) _ _ h4)⟩;exact gT X _ rfl (S2.mut hx hm cb ho) ((gF.c8 (h1.trans h3)).trans S (S2.sq (tk:=au.toks+1) hx hm cb ho))))))))))
def gD.eG(ex:Ext G bg s)(hn:∀b,wr b->bg.heap.get? b=none)(S:St G F X ρ bg.heap)(x:gD G F wr (λb=>X b\/wr b) X' ρ az s s'):gF G F X X' ρ az bg s':=by
 refine⟨λb o n hb e=>x.keep b o n hb (λq=>by rw[hn b q]at e;exact cG e) (ex.keep b o n e),λb o e=>(aO (ex.there b o e) λo' e'=>x.there b o' (λq=>by rw[hn b q]at e;exact cG e) e'),λT=>x.tb (ex.tb T),λa q=>(x.rZ a q).imp id ex.none,λa q=>?_,λa q=>?_,x.os.trans ex.os,λg=>x.gens (ex.gens g)⟩
 .rcases x.newX a q with(h|h)|h
  .exact .inl h
  .exact .inr (hn a h)
  exact .inr (ex.none h)
 rcases x.up a (.inl q)with h|h|h
 .exact .inl h
 .exact .inr h
 refine aO (S.gs.live a q) λo e=>?_;rw[hn a h]at e;exact cG e
def Em.inner{acc:Value}{t bM:Expr}{ifs:List Expr}{inner:Sem Unit}{ds:List D}{Φ:RE->Prop}(hg:gens[depth]? =some ⟨t,bM,ifs,0⟩)(h:ef G F n ρ false t bM ds)
 (ht:iK (.ListComp elt gens scope pos) depth acc F.env t ifs inner)(lp:Lp G F n ρ t ifs inner ds Φ)
 (hs:autoParam (∀x,foldedSetIterable bM F.env x=pure x) tIs):
 Em G F n ρ (do
  let x<-eval bM F.env
  standAt bM.pos
  let x<-foldedSetIterable bM F.env x;let _<-runOwn (.compStart (.ListComp elt gens scope pos) depth (<-holding [x] (pyIter x)) acc F.env) F.env) Φ:=λA s X R S=>by
 refine VU (VW (h A s X R S) (λxv aw hq=>VU (Vy (VU (wpAny_of_eq (hs xv) (VU (Vx (jO hq λit au ex I wr i0 e1 e2 e3 e4=>?_))))))) λ_ _ f=>f);subst e1;have hl:∀b,wr b->∃o,au.heap.get? b=some o:=λb hb=>(e4 b hb).2;have S2:=S.sR ex (λb hb=>(e4 b hb).1) hl;have nX:∀b,wr b->¬X b:=λb hb q=>by refine aO (S.gs.live b q) λo e=>?_;rw[(e4 b hb).1]at e;exact cG e
 have loop:codeAny (M G) A (.compLoop (.ListComp elt gens scope pos) depth (.ref I) acc F.env) (λr s'=>∃f,r=.ok f/\f=.next/\∃X' az,Φ az/\St G F X' az s'.heap/\gD G F wr (λb=>X b\/wr b) X' ρ az au s') au:=
  qR R S2 e2 e3 (λb hb=>.inr hb) (λb hb=>⟨λq=>nX b hb (S.mz b q),λq=>nX b hb (S.sub b q),λx q=>nX b hb (S.cells x b q).1⟩) (λa q=>q.elim (λq=>.inl ⟨rfl,S.mz a q⟩) .inr)
   (λa q=>q.elim (λq=>q.elim (λq=>.inl (.inl ⟨rfl,q⟩)) .inr) λq=>.inl (.inr q)) ht lp (λP Iv tn n s hI=>j3 Iv tn n hI)
 refine VU (wpAny_runOwn (codeAny_mono (R:=λr s'=>∃f,r=.ok f/\f=.next/\∃X' az,Φ az/\St G F X' az s'.heap/\gD G F wr (λb=>X b\/wr b) X' ρ az au s') (jE hg loop (sr (e2.self 0 au e3) λv s' q1 q2=>by subst q1 q2;exact loop)) λr s' hr=>?_));obtain⟨f,rfl,rfl,X',az,a1,a2,a3⟩:=hr;exact VV ⟨X',az,a1,a2,gD.eG ex (λb hb=>(e4 b hb).1) S a3⟩
end
def alt{a b:Nat}(h:a<b)(e:a=b):False:=Vw _ (e▸h)
noncomputable def gZ(env:Env):List (Str×NameKind)->List (Str×Addr)->Option (List (Str×Addr))
 |[],acc=>some acc
 |(n,k)::r,acc=>if k==.free then(match env.cells.lookup n with|some c=>gZ env r ((n,c)::acc)|none=>none)else gZ env r acc
def ot:gZ env ((n,k)::r) acc=if k==.free then(match env.cells.lookup n with|some c=>gZ env r ((n,c)::acc)|none=>none)else gZ env r acc:=rfl
def yk:∀(names:List (Str×NameKind)) (acc cl:List (Str×Addr)),gZ env names acc=some cl->
 (forIn names acc (λx cs=>if(x.2==NameKind.free)=true then(do let c<-cellOf env x.1;pure (ForInStep.yield ((x.1,c)::cs)))else pure (ForInStep.yield cs)):Sem (List (Str×Addr)))=pure cl:=by
 intro l';induction l' with
 |nil=>exact @λacc cl h=>by obtain rfl:=Option.some.inj h;rfl
 |cons y' r aU=>
  obtain⟨n,k⟩:=y';exact @λacc cl h=>by
   rw[forIn_cons];rw[ot]at h;by_cases hk:(k==NameKind.free)=true
   .simp only[hk,V8]at h⊢;induction hc:env.cells.lookup n using Option.casesOn with
    |none=>rw[hc]at h;exact cG h
    |some c=>
     rw[hc]at h;have e:cellOf env n=pure c:=by unfold cellOf;rw[hc]
     rw[e];simp only[pure_bind];exact aU _ cl h
   simp only[hk,V6,T8]at h⊢;simp only[pure_bind];exact aU _ cl h
def j4(h:gZ env scope.names []=some cl):closureFor scope env=pure cl:=by unfold closureFor;have e:=yk scope.names [] cl h;simpa using e
def lG:∀(names:List (Str×NameKind)) (acc cl:List (Str×Addr)),gZ env names acc=some cl->∀x c,(x,c)∈cl->(x,c)∈acc\/(env.cells.lookup x=some c/\(x,NameKind.free)∈names):=by
 intro l';induction l' with
 |nil=>exact @λacc cl h x c hm=>by obtain rfl:=Option.some.inj h;exact .inl hm
 |cons y' r aU=>
  obtain⟨n,k⟩:=y';exact @λacc cl h x c hm=>by
   rw[ot]at h;by_cases hk:(k==NameKind.free)=true
   .simp only[hk,V8]at h;induction hc:env.cells.lookup n using Option.casesOn with
    |none=>rw[hc]at h;exact cG h
    |some c'=>
     rw[hc]at h;rcases aU _ cl h x c hm with q|q
     .rcases Vr.mp q with q|q
      .cases q;exact .inr ⟨hc,by rw[VX.mp hk];exact .head _⟩
      exact .inl q
     exact .inr ⟨q.1,.tail _ q.2⟩
   simp only[hk,T8,V6]at h;exact(aU _ cl h x c hm).imp id λq=>⟨q.1,.tail _ q.2⟩
def vF(he:env.cells.Pairwise λx y=>x.2≠y.2):∀(names:List (Str×NameKind)) (acc cl:List (Str×Addr)),gZ env names acc=some cl->(names.map (·.1)).Nodup->
 (∀x c,(x,c)∈acc->env.cells.lookup x=some c/\x∉names.map (·.1))->acc.Pairwise (λx y=>x.2≠y.2)->cl.Pairwise λx y=>x.2≠y.2:=by
 intro l';induction l' with
 |nil=>exact @λacc cl h _ _ hp=>by obtain rfl:=Option.some.inj h;exact hp
 |cons y' r aU=>
  obtain⟨n,k⟩:=y';exact @λacc cl h hn ha hp=>by
   rw[ot]at h;rw[Vt,UZ]at hn;by_cases hk:(k==NameKind.free)=true
   .simp only[hk,V8]at h;induction hc:env.cells.lookup n using Option.casesOn with
    |none=>rw[hc]at h;exact cG h
    |some c'=>
     rw[hc]at h;refine aU _ cl h hn.2 (λx c q=>?_) (T7.mpr ⟨λp q e=>?_,hp⟩)
     .rcases Vr.mp q with q|q
      .cases q;exact⟨hc,hn.1⟩
      exact⟨(ha x c q).1,λz=>(ha x c q).2 (.tail _ z)⟩
     obtain⟨y,c⟩:=p;have h1:=ha y c q;have e':c'=c:=e;have:=name_of_addr he (mem_of_lookup hc) (e'▸mem_of_lookup h1.1);exact h1.2 (this▸ .head _)
   simp only[hk,T8,V6]at h;exact aU _ cl h hn.2 (λx c q=>⟨(ha x c q).1,λz=>(ha x c q).2 (.tail _ z)⟩) hp
def mx:∀(names:List (Str×NameKind)) (h:Heap) (acc:List (Str×Addr)) (x:Str) (c:Addr),(x,c)∈cellsFrom h.objs.size names acc->(x,c)∈acc\/(h.objs.size<=c/\(pushCells h names).IsCell c none):=by
 intro l';induction l' with
 |nil=>exact @λh acc x c hm=>.inl hm
 |cons y' r aU=>
  obtain⟨n,k⟩:=y';exact @λh acc x c hm=>by
   unfold cellsFrom at hm;unfold pushCells;by_cases hk:(k==NameKind.cell)=true
   .rw[if_pos hk]at hm⊢;have hz:(h.push {cls:=.type "cell",data:=.cell none}).objs.size=h.objs.size+1:=Vl ..;rw[<-hz]at hm;rcases aU _ _ x c hm with q|q
    .rcases Vr.mp q with q|q
     .cases q;exact .inr ⟨VP _,Heap.IsCell.keeps ⟨_,TG _ rfl,rfl⟩ (Vi _ _)⟩
     exact .inl q
    exact .inr ⟨by rw[hz]at q;lia,q.2⟩
   rw[if_neg hk]at hm⊢;exact aU h acc x c hm
def cells_apart:∀(names:List (Str×NameKind)) (m:Nat) (acc:List (Str×Addr)),acc.Pairwise (λx y=>x.2≠y.2)->(∀x c,(x,c)∈acc->c<m)->(cellsFrom m names acc).Pairwise λx y=>x.2≠y.2:=by
 intro l';induction l' with
 |nil=>exact @λm acc hp _=>hp
 |cons y' r aU=>
  obtain⟨n,k⟩:=y';exact @λm acc hp hl=>by
   unfold cellsFrom;split
   ·refine aU (m+1) _ (T7.mpr ⟨λp q e=>?_,hp⟩) λx c q=>?_
    .exact alt (hl p.1 p.2 q) (V7 e)
    rcases Vr.mp q with q|q
    .cases q;exact UG _
    exact Uj (hl x c q)
   exact aU m acc hp hl
section
variable{G:Gd}{F:Fx}{n:Nat}{ρ:RE}
noncomputable def bz(F:Fx)(scope:Scope)(cl:List (Str×Addr))(vars:List Str)(C:Addr):Fx:=
 ⟨{scope:=relabel scope F.env,locals:=C,globals:=F.env.globals,cells:=cellsFrom (C+1) scope.names cl,qual:=F.env.qual,func:=none,code:=F.env.code,frame:=F.env.frame,builtins:=F.env.builtins},accN::vars,F.aD⟩
noncomputable def Pg(F:Fx)(F':Addr->Fx)(x:Str):Prop:=
 ∀C,((F' C).env.kindOf x=some .cell\/(F' C).env.kindOf x=some .free)/\(F.env.kindOf x=some .cell\/F.env.kindOf x=some .free)/\(F' C).env.cells.lookup x=F.env.cells.lookup x
inductive Vs(F:Fx)(F':Addr->Fx)(ρ:RE):List Str->RE->Prop where
 |nil:Vs F F' ρ [] []
 |no {x:Str} {xs:List Str} {gN:RE} (r:Vs F F' ρ xs gN):Vs F F' ρ (x::xs) (.no::gN)
 |val {x:Str} {xs:List Str} {gN:RE} {d:D} (j:Nat) (hj:F.vars[j]? =some x) (hm:ρ[j]? =some (.val d)) (hv:Pg F F' x) (r:Vs F F' ρ xs gN):Vs F F' ρ (x::xs) (.val d::gN)
def Vs.get(h:Vs F F' ρ xs gN):gN.length=xs.length/\∀(i:Nat) (x:Str) (sl:Slot),xs[i]? =some x->gN[i]? =some sl->sl=.no\/∃(j:Nat) (d:D),F.vars[j]? =some x/\ρ[j]? =some (Slot.val d)/\sl=Slot.val d/\Pg F F' x:=by
 induction h with
 |nil=>exact⟨rfl,λi x sl h=>by trivial⟩
 |no r ih=>exact⟨by simp[ih.1],λi x sl h1 h2=>by
  induction i using Nat.casesAuxOn with
  |zero=>simp at h2;exact .inl h2.symm
  |succ i=>exact ih.2 i x sl (by simpa using h1) (by simpa using h2)⟩
 |val j hj hm hv r ih=>exact⟨by simp[ih.1],λi x sl h1 h2=>by
  induction i using Nat.casesAuxOn with
  |zero=>simp at h1 h2;subst h1 h2;exact .inr ⟨j,_,hj,hm,rfl,hv⟩
  |succ i=>exact ih.2 i x sl (by simpa using h1) (by simpa using h2)⟩
def uJ{h:Heap}(S:Gs G X h)(ha:h.objs.size<=a):(a==sysModules)=false:=by
 refine fq G.g λo es ep ho hd _=>?_;have h1:=VD (S.base _ _ (fY hd) ho);have h2:(1:Nat)<mainGlobals:=by decide
 refine TH.mpr λq=>alt (a:=1) (b:=a) ?_ q.symm;exact TZ (Nat.lt_trans h2 h1) ha
def St.comp{X wr:XS}(S:St G F (λb=>X b\/wr b) ρ h₂)(jc:gZ F.env scope.names []=some cl)(jW:(scope.names.map (·.1)).Nodup)
 (hk:scope.kind=.function)(vs:Vs F (bz F scope cl vars) ρ vars gN)
 (hx:∀a,F.aD a->X a\/wr a)(ho:bt G (h₂.push o) (λb=>(X b\/wr b)\/b=h₂.objs.size) h₂.objs.size d):
 St G (bz F scope cl vars (h₂.objs.size+1)) (λb=>((X b\/wr b)\/b=h₂.objs.size)\/b=h₂.objs.size+1\/∃x,(cellsFrom (h₂.objs.size+1+1) scope.names cl).lookup x=some b) (.own h₂.objs.size d::gN)
  (pushCells ((h₂.push o).push {cls:=.type "dict",data:=.dict #[]}) scope.names):=by
 have z1:(h₂.push o).objs.size=h₂.objs.size+1:=Vl ..;have z2:((h₂.push o).push {cls:=.type "dict",data:=.dict #[]}).objs.size=h₂.objs.size+1+1:=by rw[Vl,z1]
 have keep:∀b o',h₂.get? b=some o'->(pushCells ((h₂.push o).push {cls:=.type "dict",data:=.dict #[]}) scope.names).get? b=some o':=λb o' e=>Vi _ _ _ _ (SR _ (SR _ e));have zv:∀b o',(h₂.push o).get? b=some o'->(pushCells ((h₂.push o).push {cls:=.type "dict",data:=.dict #[]}) scope.names).get? b=some o':=λb o' e=>Vi _ _ _ _ (SR _ e);have HS:∀x c,(x,c)∈cl->F.env.cells.lookup x=some c:=λx c hm=>((lG _ _ _ jc x c hm).resolve_left (by simp)).1;have Rw:∀x c,(x,c)∈cl->c<h₂.objs.size:=λx c hm=>by refine uR (S.cells x c (HS x c hm)) λ_ ov o' e _=>?_;exact VD e
 have cn:∀x c,(cellsFrom (h₂.objs.size+1+1) scope.names cl).lookup x=some c->(x,c)∈cl\/(h₂.objs.size+1+1<=c/\(pushCells ((h₂.push o).push {cls:=.type "dict",data:=.dict #[]}) scope.names).IsCell c none):=λx c e=>by
  have:=mx scope.names ((h₂.push o).push {cls:=.type "dict",data:=.dict #[]}) cl x c (by rw[z2];exact mem_of_lookup e)
  rwa [z2]at this
 have live:∀b,(((X b\/wr b)\/b=h₂.objs.size)\/b=h₂.objs.size+1\/∃x,(cellsFrom (h₂.objs.size+1+1) scope.names cl).lookup x=some b)->∃o',(pushCells ((h₂.push o).push {cls:=.type "dict",data:=.dict #[]}) scope.names).get? b=some o':=λb q=>by
  rcases q with(q|q)|q|⟨x,q⟩
  .refine aO (S.gs.live b q) λo' e=>?_;exact⟨o',keep b o' e⟩
  .refine aO ho.live λo' e=>?_;exact⟨o',q▸zv _ _ e⟩
  .rw[q,<-z1];exact⟨_,Vi _ _ _ _ (TG _ rfl)⟩
  rcases cn x b q with h|h
  .refine aO (S.gs.live b (S.cells x b (HS x b h)).1) λo' e=>?_;exact⟨o',keep b o' e⟩
  refine ao h.2 λo' e _=>?_;exact⟨o',e⟩
 have Jf:∀b o',h₂.get? b=some o'->b<h₂.objs.size:=λb o' e=>VD e;have ok:Ok (λb=>X b\/wr b) h₂ (λb=>((X b\/wr b)\/b=h₂.objs.size)\/b=h₂.objs.size+1\/∃x,(cellsFrom (h₂.objs.size+1+1) scope.names cl).lookup x=some b) (pushCells ((h₂.push o).push {cls:=.type "dict",data:=.dict #[]}) scope.names):=λb o' _ e hb=>⟨keep b o' e,λq=>by
  have cB:=Jf b o' e;rcases q with(q|q)|q|⟨x,q⟩
  .exact hb q
  .exact alt cB q
  .exact alt (Uj cB) q
  .rcases cn x b q with h|h
   .exact hb (S.cells x b (HS x b h)).1
   .exact Vw _ (TZ cB (Vz (VE (Uj (UG _))) h.1))⟩
 refine cu vs.get λFC Cy=>?_;refine⟨⟨by show(relabel scope F.env).kind=_;exact hk,S.ok.globals,S.ok.builtins,?_⟩,⟨S.gs.tb.keeps keep,live,λb q=>?_⟩,λa q=>.inl (.inl (hx a q)),.inr (.inl rfl),?_,λx c e=>⟨.inr (.inr ⟨x,e⟩),?_⟩,by exact V4 _ ‹_›,λi j a bL cN h1 h2=>?_,λi x sl h1 h2=>?_⟩
 .exact cells_apart _ _ _ (vF S.ok.apart _ _ _ jc jW (λx c q=>by simp at q) Pairwise.nil) λx c q=>Uj (Uj (Rw x c q))
 .by_cases hb:X b\/wr b
  .exact S.gs.new b hb
  induction e:G.h₀.get? b using Option.casesOn with
  |none=>rfl
  |some o'=>
   refine aO (S.gs.tb.has e) λmR e'=>?_;exfalso;have cB:=Jf b mR e';rcases q with(q|q)|q|⟨x,q⟩
   .exact hb q
   .exact alt cB q
   .exact alt (Uj cB) q
   rcases cn x b q with h|h
   .exact hb (S.cells x b (HS x b h)).1
   exact Vw _ (TZ cB (Vz (VE (Uj (UG _))) h.1))
 .have:=Heap.Ns.new (h₂.push o) (.type "dict");rw[z1]at this;exact⟨_,this.keeps (Vi _ _)⟩
 .rcases cn x c e with h|h
  .refine uA (S.cells x c (HS x c h)) λ_ ov q=>?_;exact⟨ov,q.keeps keep⟩
  exact⟨_,h.2⟩
 .have own:∀(i:Nat) (a:Addr) (bL:D),(Slot.own h₂.objs.size d::gN)[i]? =some (.own a bL)->i=0:=λi a bL e=>by
   induction i using Nat.casesAuxOn with
   |zero=>rfl
   |succ i=>
    exfalso;have e':gN[i]? =some (.own a bL):=by simpa using e
    have hi:i<gN.length:=(SF.mp e').1;rcases Cy i (vars[i]'(by exact T1 hi FC)) _ (SK _) e' with q|⟨_,_,_,_,q,_⟩<;>(exfalso;cases q)
  rw[own i a bL h1,own j a cN h2]
 induction i using Nat.casesAuxOn with
 |zero=>
  simp[bz]at h1 h2;subst h1 h2;refine⟨.inl rfl,.inl (.inr rfl),λq=>?_,λq=>?_,ho.move (λo' _ e=>zv _ o' e) λb o' _ e hb=>⟨zv b o' e,λq=>?_⟩⟩
  .exact S.gs.fresh (hx _ q)
  .exact succ_ne_self _ q.symm
  have cB:b<h₂.objs.size+1:=by rw[<-z1];exact VD e
  rcases q with q|q|⟨x,q⟩
  .exact hb q
  .exact alt cB q
  rcases cn x b q with h|h
  .exact hb (.inl (S.cells x b (HS x b h)).1)
  exact Vw _ (TZ cB (Vz (VS _) h.1))
 |succ i=>
  have LA:vars[i]? =some x:=by simpa[bz]using h1
  have MN:gN[i]? =some sl:=by simpa using h2
  rcases Cy i x sl LA MN with rfl|⟨j,bL,f1,f2,rfl,hv⟩
  .trivial
  refine ao (S.slots j x _ f1 f2) λv g1 g2=>?_;refine⟨v,?_,Rep.move ok _ _ g2⟩;refine dW (hv (h₂.objs.size+1)) λk1 k2 k3=>?_;rcases g1 with⟨q1,_⟩|⟨_,c,q2,q3⟩
  .rcases k2 with k2|k2<;>rw[k2]at q1<;>(exfalso;cases q1)
  exact .inr ⟨k1,c,k3.trans q2,q3.keeps keep⟩
end
section
variable{G:Gd}{F:Fx}{n:Nat}{ρ:RE}
def tZ{M:Model}
 (h:Q {scope:=scope,locals:=s.heap.objs.size,globals:=env.globals,cells:=cellsFrom (s.heap.objs.size+1) scope.names cl,qual:=env.qual,func:=none,code:=env.code,frame:=env.frame,builtins:=env.builtins}
  {s with heap:=pushCells (s.heap.push {cls:=.type "dict",data:=.dict #[]}) scope.names}):
 wpAny M A (newFunctionEnv scope env.globals cl [] env.qual none .none (some env)) Q E s:=by
 simp only[newFunctionEnv,Option.isSome_some,V8];refine VU (wpAny_alloc ?_);refine VU (wpAny_layCells _ (λname kind cells=>by cases Ik:kind==NameKind.cell<;>rfl) _ _ _ _ ?_);refine Eq.substr (show({s with heap:=s.heap.push {cls:=.type "dict",data:=.dict #[]}}:Shared).heap.objs.size=s.heap.objs.size+1 from Vl ..) ?_;rw[forIn_nil];exact VU (VV (VV h))
def qO{inner:Addr->Addr->Sem Unit}
 (NG:clausesOf e=⟨target,bM,ifs,0⟩::rest)(iI:ef G F n ρ false target bM ds)(hs:∀x,foldedSetIterable bM F.env x=pure x)
 (jc:gZ F.env scope.names []=some cl)(jW:(scope.names.map (·.1)).Nodup)(hk:scope.kind=.function)(iH:∀x∈scope.names,x.2=.local->scope.names.lookup x.1=some .local)
 (pC:∀(A:Around) (s:Shared) (Q:Value->Shared->Prop),Q (.ref s.heap.objs.size) {s with heap:=s.heap.push o}->wpAny (M G) A iE Q ff s)
 (ho:∀(X:XS) (h:Heap),Gs G X h->bt G (h.push o) (λb=>X b\/b=h.objs.size) h.objs.size jU)
 (vs:Vs F (bz F scope cl vars) ρ vars gN)
 (Ha:∀(A:Around) (R:Result->Shared->Prop) (s:Shared) (it acc:Value) (env:Env),codeAny (M G) A (.compLoop e 0 it acc env) R s->wpAny (M G) A (pyIter it) (λB9 s'=>codeAny (M G) A (.compLoop e 0 B9 acc env) R s') (λ_ _=>False) s->codeAny (M G) A (.compStart e 0 it acc env) R s)
 (zC:∀(A:Around) (it acc:Value) (env:Env) (P:Result->Shared->Prop) (Iv:Nat->Shared->Prop),(∀n s,Iv n s->wpAny (M G) A (compTurn e 0 it acc env) (λfin s'=>match fin with|.done f=>P (.ok f) s'|.again c=>c=.compLoop e 0 it acc env/\∃m,m<n/\Iv m s') (λ_ _=>False) s)->
  ∀(n:Nat) (s:Shared),Iv n s->codeAny (M G) A (.compLoop e 0 it acc env) P s)
 (ht:∀C l,iK e 0 (.ref l) (bz F scope cl vars C).env target ifs (inner C l))
 (lp:∀C l,Lp G (bz F scope cl vars C) n (.own l jU::gN) target ifs (inner C l) ds (λaz=>∃gi,az=.own l out::gi))
 {s:Shared}{X:XS}(R:ec A n)(S:St G F X ρ s.heap){use:Option (Value->Sem Unit)}{Q:Value->Shared->Prop}
 (hQ:∀(eK:Shared) (a C:Addr) (m:Str->Option Value),Ext G s eK->s.heap.get? a=none->s.heap.get? C=none->a≠C->eK.heap.Ns C m->bt G eK.heap (λb=>(X b\/b=a)\/b=C) a out->compPost (M G) A ff use Q (.ref a) C (.ok .next) eK):
 wpAny (M G) A (comprehension e scope F.env pD iE false (eval bM F.env) use) Q ff s:=by
 refine wpAny_comprehension_free (use:=use) NG hs (j4 jc) hk iH (VW (iI A s X R S) (λxv aw hq=>jO hq λit au ex I wr i0 e1 e2 e3 e4=>?_) λ_ _ f=>f);subst e1;refine pC A au _ ?_;refine tZ ?_;have hl:∀b,wr b->∃o,au.heap.get? b=some o:=λb hb=>(e4 b hb).2;have S2:=S.sR ex (λb hb=>(e4 b hb).1) hl;have nX:∀b,wr b->¬X b:=λb hb q=>by refine aO (S.gs.live b q) λo e=>?_;rw[(e4 b hb).1]at e;exact cG e
 have z1:(au.heap.push o).objs.size=au.heap.objs.size+1:=Vl ..;dsimp only;rw[z1];have S4:=St.comp (o:=o) S2 jc jW hk vs (λa q=>.inl (S.sub a q)) (ho _ _ S2.gs);generalize hH:pushCells ((au.heap.push o).push {cls:=.type "dict",data:=.dict #[]}) scope.names=H at S4⊢;revert H;refine nz ?_;intro H;intro;intro;have nN:∀b o',au.heap.get? b=some o'->H.get? b=some o':=λb o' e=>hH▸Vi _ _ _ _ (SR _ (SR _ e));have Ro:Ext G au {au with heap:=H}:=.full nN rfl id;refine cu vs.get λFC Cy=>?_;have zg:∀a,Wr (bz F scope cl vars (au.heap.objs.size+1)) (.own au.heap.objs.size jU::gN) a->au.heap.get? a=none:=λa q=>by
  rcases q with q|⟨q,_⟩|⟨i,d,q⟩
  .have q':a=au.heap.objs.size+1:=q;exact cz _ (q'▸VS _)
  .have q':au.heap.objs.size+1<a:=q;exact cz _ (VE (Nat.lt_trans (UG _) q'))
  induction i using Nat.casesAuxOn with
  |zero=>simp at q;exact q.1▸b9 _
  |succ i=>
   exfalso;have e':gN[i]? =some (.own a d):=by simpa using q
   have hi:i<gN.length:=(SF.mp e').1;rcases Cy i (vars[i]'(by exact T1 hi FC)) _ (SK _) e' with q|⟨_,_,_,_,q,_⟩<;>(exfalso;cases q)
 have JM:∀b,wr b->b<au.heap.objs.size:=λb hb=>by refine aO (hl b hb) λo e=>?_;exact VD e
 have loop:codeAny (M G) A (.compLoop e 0 (.ref I) (.ref au.heap.objs.size) (bz F scope cl vars (au.heap.objs.size+1)).env) (λr s'=>∃f,r=.ok f/\f=.next/\∃X' az,(∃gi,az=Slot.own au.heap.objs.size out::gi)/\St G (bz F scope cl vars (au.heap.objs.size+1)) X' az s'.heap/\gD G (bz F scope cl vars (au.heap.objs.size+1)) wr (λb=>((X b\/wr b)\/b=au.heap.objs.size)\/b=au.heap.objs.size+1\/∃x,(cellsFrom (au.heap.objs.size+1+1) scope.names cl).lookup x=some b) X' (.own au.heap.objs.size jU::gN) az {au with heap:=H} s') {au with heap:=H}:=by
  refine qR (s:={au with heap:=H}) R S4 e2 (e2.frame 0 _ _ e3 λb o' _ _ e=>nN b o' e) (λb hb=>.inl (.inl (.inr hb))) (λb hb=>⟨λq=>?_,λq=>nX b hb (S.sub b q),λx q=>?_⟩) (λa q=>?_) (λa q=>?_) (ht _ _) (lp _ _) (zC A _ _ _)
  .refine aO (hl b hb) λo' e'=>?_;rw[zg b q]at e';exact cG e'
  .have h1:=mx scope.names ((au.heap.push o).push {cls:=.type "dict",data:=.dict #[]}) cl x b (by rw[Vl,z1];exact mem_of_lookup q);rcases h1 with h1|h1
   .exact nX b hb (S.cells x b ((lG _ _ _ jc x b h1).resolve_left (by simp)).1).1
   have h2:=h1.1;rw[Vl,z1]at h2;exact Vw _ (TZ (JM b hb) (Vz (VS _) (Vz (VS _) h2)))
  .rcases q with q|q
   .exact .inr (zg a q)
   refine .inr ?_;induction z:au.heap.get? a using Option.casesOn with
   |none=>rfl
   |some o'=>have:=nN a o' z;simp only[q]at this;exact cG this
  rcases q with q|q
  .rcases q with(q|q)|q|⟨x,q⟩
   .exact q.elim (λq=>.inl (.inl ⟨rfl,q⟩)) .inr
   .exact .inl (.inr (q▸b9 _))
   .exact .inl (.inr (q▸cz _ (VS _)))
   have h1:=mx scope.names ((au.heap.push o).push {cls:=.type "dict",data:=.dict #[]}) cl x a (by rw[Vl,z1];exact mem_of_lookup q);rcases h1 with h1|h1
   .exact .inl (.inl ⟨rfl,(S.cells x a ((lG _ _ _ jc x a h1).resolve_left (by simp)).1).1⟩)
   have h2:=h1.1;rw[Vl,z1]at h2;exact .inl (.inr (cz _ (Vz (VS _) (Vz (VS _) h2))))
  refine .inl (.inr ?_);induction z:au.heap.get? a using Option.casesOn with
  |none=>rfl
  |some o'=>have:=nN a o' z;simp only[q]at this;exact cG this
 refine codeAny_mono (R:=λr s'=>∃f,r=.ok f/\f=.next/\∃X' az,(∃gi,az=Slot.own au.heap.objs.size out::gi)/\St G (bz F scope cl vars (au.heap.objs.size+1)) X' az s'.heap/\gD G (bz F scope cl vars (au.heap.objs.size+1)) wr (λb=>((X b\/wr b)\/b=au.heap.objs.size)\/b=au.heap.objs.size+1\/∃x,(cellsFrom (au.heap.objs.size+1+1) scope.names cl).lookup x=some b) X' (.own au.heap.objs.size jU::gN) az {au with heap:=H} s')
  (Ha A _ _ _ _ _ loop (sr (e2.self 0 {au with heap:=H} (e2.frame 0 _ _ e3 λb o' _ _ e=>nN b o' e)) λv s' q1 q2=>by subst q1 q2;exact loop)) λr eK hr=>?_
 obtain⟨f,rfl,rfl,X5,RK,⟨gi,rfl⟩,S5,p5⟩:=hr;have old:∀b o',s.heap.get? b=some o'->¬Wr (bz F scope cl vars (au.heap.objs.size+1)) (.own au.heap.objs.size jU::gN) b/\¬wr b:=λb o' e=>by
  refine⟨λq=>?_,λq=>?_⟩
  .refine aO (ex.there b o' e) λmR h1=>?_;rw[zg b q]at h1;exact cG h1
  rw[(e4 b q).1]at e;exact cG e
 have NL:Ext G s eK:=⟨λb o' n e=>p5.keep b o' n (old b o' e).1 (old b o' e).2 (nN b o' (ex.keep b o' n e)),λb o' e=>(aO (ex.there b o' e) λmR h1=>p5.there b mR (old b o' e).2 (nN b mR h1)),λT=>p5.tb (Ro.tb (ex.tb T)),p5.os.trans ex.os,λg=>p5.gens (ex.gens g)⟩;refine dk (S5.slots 0 accN (.own au.heap.objs.size out) rfl rfl) λ_ xa _ _ Nc=>?_;refine aO S5.ns λm hm=>?_;refine hQ eK au.heap.objs.size (au.heap.objs.size+1) m NL (ex.none (b9 _)) (ex.none (cz _ (VS _))) (λq=>succ_ne_self _ q.symm) hm (Nc.move (λ_ _ e=>e) λb o' _ e hb=>⟨e,λq=>?_⟩);rcases q with(q|q)|q
 .refine aO (S.gs.live b q) λFH h1=>?_;rcases p5.up b (.inl (.inl (.inl q)))with h|h|h
  .exact hb h
  .exact(old b FH h1).1 h
  exact(old b FH h1).2 h
 .exact hb (q▸xa)
 exact hb (q▸S5.xL)
def wg{X:XS}(hs:Heap.SameBut C h h'):Ok (λb=>(X b\/b=a)\/b=C) h (λb=>X b\/b=a) h':=λb o _ e hb=>⟨(hs.2 b λq=>hb (.inr q)).trans e,λq=>hb (.inl q)⟩
structure bw(G:Gd)(F:Fx)(n:Nat)(ρ:RE)(e:Expr)(iE:Sem Value)(target bM:Expr)(rest:List Comprehension)(scope:Scope)(out:D):Prop where
 go:∀(A:Around) (s:Shared) (X:XS) (pD:Pos) (use:Option (Value->Sem Unit)) (Q:Value->Shared->Prop),ec A n->St G F X ρ s.heap->
  (∀(eK:Shared) (a C:Addr) (m:Str->Option Value),Ext G s eK->s.heap.get? a=none->s.heap.get? C=none->a≠C->eK.heap.Ns C m->bt G eK.heap (λb=>(X b\/b=a)\/b=C) a out->compPost (M G) A ff use Q (.ref a) C (.ok .next) eK)->
  wpAny (M G) A (comprehension e scope F.env pD iE false (eval bM F.env) use) Q ff s
def bw.value(c:bw G F n ρ e iE target bM rest scope out)(R:ec A n)(S:St G F X ρ s.heap):
 wpAny (M G) A (comprehension e scope F.env pD iE false (eval bM F.env) none) (λv s'=>Ext G s s'/\∃a,v=.ref a/\s.heap.get? a=none/\bt G s'.heap (λb=>X b\/b=a) a out) ff s:=by
 refine c.go A s X pD none _ R S λeK a C m ex ha hC HQ hm ho=>⟨m,hm,λh' hs=>⟨⟨λb o n e=>(hs.2 b λq=>by rw[q,hC]at e;exact cG e).trans (ex.keep b o n e),λb o e=>(aO (ex.there b o e) λmR cS=>⟨mR,(hs.2 b λq=>by rw[q,hC]at e;exact cG e).trans cS⟩),λT=>(ex.tb T).sameBut hs (T.none hC),ex.os,ex.gens⟩,a,rfl,ha,?_⟩⟩;exact ho.move (λo _ e=>(hs.2 a HQ).trans e) (wg hs)
def bw.used(c:bw G F n ρ e iE target bM rest scope out)(R:ec A n)(S:St G F X ρ s.heap)
 (k:d6 F i x)(h:∀l,Φ .next (ρ.set i (.own l out)))(hi:i<ρ.length):
 wpAny (M G) A (comprehension e scope F.env pD iE false (eval bM F.env) (some (assign (.Name x p) F.env))) (λ_ s'=>uH G F ρ X s Φ .next s') ff s:=by
 refine c.go A s X pD _ _ R S λeK a C m ex ha hC HQ hm ho=>?_;refine(?_:wpAny (M G) A (assign (.Name x p) F.env (.ref a)) _ ff eK);refine eR (id hm) λoC Se Sh QB _=>?_;have S1:=S.sR (wr:=λb=>b=a\/b=C) ex (λb q=>q.elim (λq=>q▸ha) λq=>q▸hC) (λb q=>q.elim (λq=>q▸ho.live) λq=>q▸⟨_,QB⟩);have nX:∀b,s.heap.get? b=none->¬X b:=λb e q=>by refine aO (S.gs.live b q) λo e'=>?_;rw[e]at e';exact cG e'
 refine wpAny_assign_Name (eW S1 k λh' tk S' hh hk=>?_);have nW:∀b,s.heap.get? b=none->¬Wr F ρ b:=λb e q=>nX b e (S.mz b q);refine bH m (hm.at' λo e=>hk.keep C o (nW C hC) e) (λIB hs=>?_);have S2:St G F (λb=>X b\/b=a) (ρ.set i .no) IB:=by
  refine S'.E0 (wr:=λb=>b=C) (λb o hb e=>(hs.2 b hb).trans e) (λb q=>.inr (.inr q)) (λb q=>⟨λz=>?_,λz=>nX C hC (q▸S.sub b z),λy z=>?_⟩) (λb q=>q.imp id .inl) (λb q=>?_) λb q q'=>?_
  .exact nW C hC (kf (λ_ _ e=>by cases e) C (q▸z))
  .exact nX C hC (q▸(S.cells y b z).1)
  .rcases q with q|q|q
   .exact .inl (.inl q)
   .exact .inl (.inr q)
   exact .inr q
  exfalso;rcases q with q|q
  .exact nX C hC (q'▸q)
  exact HQ (q.symm.trans q')
 have Iq:Holds F.env IB x (some (.ref a)):=by
  rcases hh with⟨z1,m',z2,z3⟩|⟨z1,c',z2,z3⟩
  .exact .inl ⟨z1,m',z2.sameBut hs (λq=>nX C hC (q▸S.xL)),z3⟩
  exact .inr ⟨z1,c',z2,z3.sameBut hs (λq=>nX C hC (q▸(S.cells x c' z2).1))⟩
 have kp:∀b o,eK.heap.get? b=some o->¬Wr F ρ b->h'.get? b=some o:=λb o e hb=>hk.keep b o hb e;have Nf:bt G h' (λb=>(X b\/b=a)\/b=C) a out:=ho.move (λo _ e=>kp a o e (nW a ha)) λb o _ e hb=>⟨kp b o e λq=>hb (.inl (.inl (S.mz b q))),hb⟩;have Nd:bt G IB (λb=>X b\/b=a) a out:=Nf.move (λo _ e=>(hs.2 a HQ).trans e) (wg hs);refine⟨_,_,.next,h a,S2.put k ⟨.inr Iq,.inr rfl,λq=>nX a ha (S.sub a q),λq=>nX a ha (q▸S.xL),Nd⟩ (λa' d' e j Fu hj q=>?_),⟨λb o n hb e=>?_,λb o e=>(aO (ex.there b o e) λmR cS=>aO (hk.there b mR cS) λFG zd=>⟨FG,(hs.2 b λq=>by rw[q,hC]at e;exact cG e).trans zd⟩),λT=>(hk.tb (ex.tb T)).sameBut hs (T.none hC),λb q=>?_,λb q=>q.elim .inl λq=>.inr (q▸ha),λb q=>.inl (.inl q),ex.os,ex.gens⟩,rfl⟩
 .cases e;exact nW a ha (.inr (.inr ⟨j,Fu,q⟩))
 .exact(hs.2 b λq=>by rw[q,hC]at e;exact cG e).trans (kp b o (ex.keep b o n e) hb)
 rcases q with q|q|⟨j,d',q⟩
 .exact .inl (.inl q)
 .exact .inl (.inr (.inl q))
 by_cases hj:j=i
 ·(replace hj:=V7 hj;subst hj)
  rw[Uk]at q;simp only[V8]at q;split at q<;>cases q<;>exact .inr ha
 rw[Tq (λz=>hj z.symm)]at q;exact .inl (.inr (.inr ⟨j,d',q⟩))
def tY (A:Around) (s:Shared) (Q:Value->Shared->Prop) (h:Q (.ref s.heap.objs.size) {s with heap:=s.heap.push {cls:=.type "list",data:=.seq #[]}}):wpAny (M G) A (newList []) Q ff s:=Uo h
def ua (A:Around) (s:Shared) (Q:Value->Shared->Prop) (h:Q (.ref s.heap.objs.size) {s with heap:=s.heap.push {cls:=.type "dict",data:=.dict #[]}}):wpAny (M G) A newDict Q ff s:=Uo h
def xT{h:Heap}:bt G (h.push {cls:=.type "list",data:=.seq #[]}) X h.objs.size (.list []):=⟨[],⟨0,TG _ rfl⟩,b6⟩
def qt(S:Gs G Y h):bt G (h.push {cls:=.type "dict",data:=.dict #[]}) X h.objs.size (.aG []):=⟨uJ S (VP _),[],Heap.DictOf.new h,ly⟩
def vr(S:Gs G Y h):bt G (h.push {cls:=.type "dict",data:=.dict #[]}) X h.objs.size (.cF []):=⟨uJ S (VP _),[],Heap.DictOf.new h,ow⟩
def bw.list{inner:Addr->Addr->Sem Unit}(vars:List Str)
 (iI:ef G F n ρ false target bM ds)(vs:Vs F (bz F scope cl vars) ρ vars gN)
 (ht:∀C l,iK (.ListComp elt (⟨target,bM,ifs,0⟩::rest) scope pos) 0 (.ref l) (bz F scope cl vars C).env target ifs (inner C l))
 (lp:∀C l,Lp G (bz F scope cl vars C) n (.own l (.list [])::gN) target ifs (inner C l) ds (λaz=>∃gi,az=.own l (.list out)::gi))
 (hs:autoParam (∀x,foldedSetIterable bM F.env x=pure x) tIs)
 (jc:autoParam (gZ F.env scope.names []=some cl) tR)(jW:autoParam ((scope.names.map (·.1)).Nodup) tD)(hk:autoParam (scope.kind=.function) tR)(iH:autoParam (∀x∈scope.names,x.2=.local->scope.names.lookup x.1=some .local) tD):
 bw G F n ρ (.ListComp elt (⟨target,bM,ifs,0⟩::rest) scope pos) (newList []) target bM rest scope (.list out) where
 go:=λA s X pD use Q R S hQ=>qO rfl iI hs jc jW hk iH tY (λX h S=>xT) vs (λA R s it acc env h0 h1=>jE rfl h0 h1) (λA it acc env P Iv tn n s hI=>j3 Iv tn n hI) ht lp R S hQ
def bw.dict{inner:Addr->Addr->Sem Unit}(vars:List Str)
 (iI:ef G F n ρ false target bM ds)(vs:Vs F (bz F scope cl vars) ρ vars gN)
 (ht:∀C l,iK (.DictComp kx vx (⟨target,bM,ifs,0⟩::rest) scope pos) 0 (.ref l) (bz F scope cl vars C).env target ifs (inner C l))
 (lp:∀C l,Lp G (bz F scope cl vars C) n (.own l (.aG [])::gN) target ifs (inner C l) ds (λaz=>∃gi,az=.own l (.aG out)::gi))
 (hs:autoParam (∀x,foldedSetIterable bM F.env x=pure x) tIs)
 (jc:autoParam (gZ F.env scope.names []=some cl) tR)(jW:autoParam ((scope.names.map (·.1)).Nodup) tD)(hk:autoParam (scope.kind=.function) tR)(iH:autoParam (∀x∈scope.names,x.2=.local->scope.names.lookup x.1=some .local) tD):
 bw G F n ρ (.DictComp kx vx (⟨target,bM,ifs,0⟩::rest) scope pos) newDict target bM rest scope (.aG out) where
 go:=λA s X pD use Q R S hQ=>qO rfl iI hs jc jW hk iH ua (λX h S=>qt S) vs (λA R s it acc env h0 h1=>o6 rfl h0 h1) (λA it acc env P Iv tn n s hI=>pK Iv tn n hI) ht lp R S hQ
def bw.LC(c:bw G F n ρ (.ListComp elt (⟨target,bM,ifs,0⟩::rest) scope pos) (newList []) target bM rest scope out):mB G F n ρ (.ListComp elt (⟨target,bM,ifs,0⟩::rest) scope pos) out:=λA s X R S=>c.value R S
def bw.NM(c:bw G F n ρ (.DictComp kx vx (⟨target,bM,ifs,0⟩::rest) scope pos) newDict target bM rest scope out):mB G F n ρ (.DictComp kx vx (⟨target,bM,ifs,0⟩::rest) scope pos) out:=λA s X R S=>c.value R S
def bQ.eV(c:bw G F n ρ (.ListComp elt (⟨target,bM,ifs,0⟩::rest) scope xr) (newList []) target bM rest scope out)(i:Nat)(k:d6 F i x)
 (h:∀l,Φ .next (ρ.set i (.own l out)))(hi:autoParam (i<ρ.length) tD)(hs:autoParam (swapsWith (.ListComp elt (⟨target,bM,ifs,0⟩::rest) scope xr) (some (Expr.Name x p)) pos.line F.env=pure true) tR):
 bQ G F n ρ (.Assign [.Name x p] (.ListComp elt (⟨target,bM,ifs,0⟩::rest) scope xr) pos) Φ:=λA s X R S=>by
 rw[exec_Assign_Name_used _ _ _ _ hs];refine VU (Vy (VU ?_));refine(?_:wpAny _ A (do let _<-comprehension (.ListComp elt (⟨target,bM,ifs,0⟩::rest) scope xr) scope F.env _ (newList []) false (eval bM F.env) (some (PySem.assign (.Name x p) F.env))) _ _ s);exact VU (VW (c.used R S k h hi) (λ_ s' hq=>VV (VV hq)) λ_ _ f=>f)
def aK.atoms:∀{ds:List D} {vs:List Value},ds.all D.atom=true->aK G h X ds vs->aK G h' X' ds vs:=by
 intro l';induction l' with
 |nil=>exact @λ_ _ r=>by rw[aE.mp r];exact b6
 |cons d ds aU=>exact @λ_ a r=>by obtain⟨v,u,rfl,hv,hu⟩:=af.mp r;simp only[Vu,Uw]at a;exact a0 (hv.atom a.1) (aU a.2 hu)
end
section
variable{G:Gd}{F:Fx}{n:Nat}{ρ:RE}{k:Bool}
def zh:PT G n (.int i) (i !=0):=λA s X v R S r=>by obtain⟨t,rfl⟩:=ak.mp r;exact P.truthy_int ⟨rfl,.refl _⟩
def Ec(hz:x.length<2^40):PT G n (.str x) ((x.length:Int) !=0):=λA s X v R S r=>by obtain⟨t,rfl⟩:=aM.mp r;exact P.truthy_str (by exact(A1 [.l Va o9] (.n (.E yP bA))) hz) ⟨rfl,.toks⟩
def Ev.JH(a:Ev G F n ρ k e d):Ev G F n ρ k (.BoolOp op [e] pos) d:=λA s X R S=>BoolOp_one (a A s X R S)
def Ev.NU(x:Ev G F n ρ k dE bL)(t:PT G n bL c)(y:c=true->Ev G F n ρ k (.BoolOp .And (cS::rest) pos) d)(z:c=false->bL=d):Ev G F n ρ k (.BoolOp .And (dE::cS::rest) pos) d:=λA s X R S=>
 BoolOp_and (ay (x A s X R S) (λv aw h1 h2=>ay (t A aw _ v R (S.ext h1).ph h2) (λw au h3 h4=>by
  subst h3;induction w using Bool.casesOn with
  |true=>exact ay (y rfl A au X R ((S.ext h1).ext h4)) (λ_ _ h5 h6=>⟨(h1.trans h4).trans h5,h6⟩)
  |false=>exact⟨h1.trans h4,z rfl▸h4.rep h2⟩)))
def Ev.Ob(x:Ev G F n ρ k dE bL)(t:PT G n bL c)(y:c=false->Ev G F n ρ k (.BoolOp .Or (cS::rest) pos) d)(z:c=true->bL=d):Ev G F n ρ k (.BoolOp .Or (dE::cS::rest) pos) d:=λA s X R S=>
 BoolOp_or (ay (x A s X R S) (λv aw h1 h2=>ay (t A aw _ v R (S.ext h1).ph h2) (λw au h3 h4=>by
  subst h3;induction w using Bool.casesOn with
  |false=>exact ay (y rfl A au X R ((S.ext h1).ext h4)) (λ_ _ h5 h6=>⟨(h1.trans h4).trans h5,h6⟩)
  |true=>exact⟨h1.trans h4,z rfl▸h4.rep h2⟩)))
def mB.list(a:b8 G F n ρ false es ds)(hsz:autoParam (ds.length<=sizeLine) tD):mB G F n ρ (.List es pos) (.list ds):=λA s X R S=>wpAny_List (ay (a A s X pos R S) (λvs aw h1 h2=>⟨by rw[h2.length];exact hsz,h1.trans .push,_,rfl,h1.none (b9 _),vs,dU,aK.move (λb o _ e hb=>⟨SR _ e,λq=>q.elim hb λq=>alt (VD e) q⟩) _ _ h2⟩))
def mB.vX:mB G F n ρ (.Dict [] [] pos) (.aG []):=λA s X R S=>wpAny_Dict_empty ⟨.push,_,rfl,b9 _,qt S.gs⟩
def mB.vc:mB G F n ρ (.Dict [] [] pos) (.cF []):=λA s X R S=>wpAny_Dict_empty ⟨.push,_,rfl,b9 _,vr S.gs⟩
inductive B3(G:Gd)(F:Fx)(n:Nat)(ρ:RE)(k:Bool):List (Option Expr)->List Expr->List (Int×D)->Prop where
 |nil:B3 G F n ρ k [] [] []
 |cons {e v:Expr} {ks:List (Option Expr)} {vs:List Expr} {i:Int} {d:D} {aH:List (Int×D)} (a:Ev G F n ρ true e (.int i)) (b:Ev G F n ρ k v d) (r:B3 G F n ρ k ks vs aH):B3 G F n ρ k (some e::ks) (v::vs) ((i,d)::aH)
def B3.go(h:B3 G F n ρ k ks vs aH):∀(A:Around) (s:Shared) (X:XS) (pos:Pos),ec A n->St G F X ρ s.heap->
 wpAny (M G) A (evalPairs (pairTrees ks vs F.env pos)) (λr s'=>Ext G s s'/\allIntKeys r=true/\(intKeyPairs r).map (·.1)=aH.map (·.1)/\cT G s'.heap (F.lk k X) aH (intKeyPairs r)) ff s:=by
 induction h with
 |nil=>exact λA s X pos R S=>pairTrees_nil_walk ⟨.refl _,rfl,rfl,ly⟩
 |cons a b r ih=>exact λA s X pos R S=>pairTrees_cons_walk (ay (a A s X R S) (λkv aw h1 h2=>ay (b A aw X R (S.ext h1)) (λvv au h3 h4=>El (ih A au X pos R ((S.ext h1).ext h3)) λq d7 h5 h6 h7 h8=>by obtain⟨t,rfl⟩:=ak.mp h2;exact⟨(h1.trans h3).trans h5,h6,by exact V4 _ ‹_›,ij (h5.rep h4) h8⟩)))
def B3.len(h:B3 G F n ρ k ks vs aH):ks.all (·.isSome)=true/\ks.length=vs.length:=by
 induction h with
 |nil=>exact⟨rfl,rfl⟩
 |cons _ _ r ih=>exact⟨by simp[ih.1],by simp[ih.2]⟩
def mB.dict(a:B3 G F n ρ false ks vs aH)(hn:(aH.map (·.1)).Nodup)(h0:autoParam (ks≠[]) tSi)(hlen:autoParam (ks.length<=15) tSi):mB G F n ρ (.Dict ks vs pos) (.aG aH):=λA s X R S=>by have LB:Ext G s {s with heap:=s.heap.push {cls:=.type "dict",data:=.dict #[]}}:=.push;have S0:=S.grow LB (b9 s.heap) ⟨_,TG _ rfl⟩;refine wpAny_Dict_walk (knd:=intKind G.prog G.w) a.len.1 a.len.2 h0 hlen (El (a.go A _ _ pos R S0) λq aw h1 h2 h3 h4=>?_);have hD:aw.heap.DictOf (intKind G.prog G.w) s.heap.objs.size []:=Dict.b4 (Heap.DictOf.new s.heap) (h1.keep _);refine display_done_int h2 (by rw[h3];exact hn) hD λh' hm hs=>?_;have hsz:=b9 s.heap;refine Aj ⟨λb o n e=>(hs.2 b λq=>by rw[q,hsz]at e;exact cG e).trans (h1.keep b o n (LB.keep b o n e)),λb o e=>(aO (LB.there b o e) λmR cS=>aO (h1.there b mR cS) λFG zd=>⟨FG,(hs.2 b λq=>by rw[q,hsz]at e;exact cG e).trans zd⟩),λT=>(h1.tb (LB.tb T)).sameBut hs (T.none hsz),h1.os,h1.gens⟩ _ rfl hsz ⟨uJ S.gs (VP _),_,hm,?_⟩;exact cT.move (λb o _ e hb=>⟨(hs.2 b λq=>hb (.inr q)).trans e,hb⟩) _ _ h4
def bQ.lH(ix iy:Nat)(kx:d6 F ix x)(ky:d6 F iy y)(a:mB G F n ρ dE bL)(b:mB G F n ρ cS cN)
 (h:∀l₁ l₂,Φ .next ((ρ.set iy (.own l₂ cN)).set ix (.own l₁ bL)))(Io:autoParam (ix<ρ.length) tD)(Im:autoParam (iy<ρ.length) tD)(eH:autoParam (ix≠iy) tD)
 (he:autoParam (starEach [dE,cS] F.env=(false,eval dE F.env)::starEach [cS] F.env) tR)(Fp:autoParam (starEach [cS] F.env=(false,eval cS F.env)::starEach [] F.env) tR)
 (hs:autoParam (swapsWithSole [.Tuple [.Name x px,.Name y py] j tp] (.Tuple [dE,cS] j' ep) pos.line F.env=pure false) tR)
 (hw:autoParam (swappedStores [.Tuple [.Name x px,.Name y py] j tp] (.Tuple [dE,cS] j' ep) F.env=pure (some [x,y])) tR):
 bQ G F n ρ (.Assign [.Tuple [.Name x px,.Name y py] j tp] (.Tuple [dE,cS] j' ep) pos) Φ:=λA s X R S=>by
 refine Assign_Tuple_swapped (wpAny_Tuple (UK (VW (a A s X R S) (λv aw ⟨h1,l₁,hv,w8,BV⟩=>UK (VW (b A aw _ R (S.grow h1 w8 BV.live)) (λu au ⟨h3,l₂,hu,uu,OB⟩=>U8 ?_) λ_ _ f=>f) Fp) λ_ _ f=>f) he)) hs hw;subst hv hu;have S1:=S.grow h1 w8 BV.live;have S2:=S1.grow h3 uu OB.live;have Nn:bt G au.heap (λb=>(X b\/b=l₁)\/b=l₂) l₁ bL:=BV.move (λo n e=>h3.keep _ o n e) λb o n e hb=>⟨h3.keep b o n e,λq=>q.elim hb λq=>by rw[q,uu]at e;exact cG e⟩;have Rk:l₁≠l₂:=λq=>by refine aO BV.live λo e=>?_;rw[q,uu]at e;exact cG e
 refine⟨by show 2<=sizeLine;exact Tc rfl,?_⟩;have ext:Ext G au {au with heap:=au.heap.push {cls:=.type "tuple",data:=.seq ([.ref l₁,.ref l₂]:List Value).toArray}}:=.push;have hz:[x,y].length=(toArray [Value.ref l₁,Value.ref l₂]).size:=rfl;rw[hz];refine wpAny_unpackItems_tuple R.handled (s:={au with heap:=au.heap.push {cls:=.type "tuple",data:=.seq ([.ref l₁,.ref l₂]:List Value).toArray}}) (iV (vs:=[Value.ref l₁,Value.ref l₂])) λh' e=>?_;have ex:=ext.trans (kz (G:=G) (s:={au with heap:=au.heap.push {cls:=.type "tuple",data:=.seq ([.ref l₁,.ref l₂]:List Value).toArray}}) e);have S3:St G F (λb=>(X b\/b=l₁)\/b=l₂) ρ h':=S2.ext ex;refine(?_:wpAny _ _ (do holding [.ref l₁] (bindName F.env y (.ref l₂));(do holding [] (bindName F.env x (.ref l₁));assignInOrder [] [])) _ _ _);have nX:∀b,s.heap.get? b=none->¬X b:=λb e q=>by refine aO (S.gs.live b q) λo e'=>?_;rw[e]at e';exact cG e'
 have uC:s.heap.get? l₂=none:=h1.none uu;have nW:∀b,s.heap.get? b=none->¬Wr F ρ b:=λb e q=>nX b e (S.mz b q);refine VU (Vx (wpAny_bindName (eW (s:={au with heap:=h'}) S3 ky λh₂ tk S4 hh hk=>VU (Vx (wpAny_bindName ?_)))));have zu:∀(a':Addr) (d':D) (g g':Heap) (az:RE),¬Wr F az a'->(∀b,Wr F az b->X b\/b=l₁\/b=l₂)->(∀b o,¬Wr F az b->g.get? b=some o->g'.get? b=some o)->bt G g (λb=>(X b\/b=l₁)\/b=l₂) a' d'->bt G g' (λb=>(X b\/b=l₁)\/b=l₂) a' d':=λa' d' g g' az nw sub kp o'=>o'.move (λo _ e=>kp a' o nw e) λb o _ e hb=>⟨kp b o (λq=>hb ((sub b q).elim (λz=>.inl (.inl z)) λz=>z.elim (λz=>.inl (.inr z)) .inr)) e,hb⟩;have o2:bt G h₂ (λb=>(X b\/b=l₁)\/b=l₂) l₂ cN:=zu l₂ cN _ _ ρ (nW l₂ uC) (λb q=>.inl (S.mz b q)) hk.keep (OB.move (λo n e=>ex.keep _ o n e) λb o n e hb=>⟨ex.keep b o n e,hb⟩);have o1:bt G h₂ (λb=>(X b\/b=l₁)\/b=l₂) l₁ bL:=zu l₁ bL _ _ ρ (nW l₁ w8) (λb q=>.inl (S.mz b q)) hk.keep (Nn.move (λo n e=>ex.keep _ o n e) λb o n e hb=>⟨ex.keep b o n e,hb⟩);have S5:St G F (λb=>(X b\/b=l₁)\/b=l₂) (ρ.set iy (.own l₂ cN)) h₂:=S4.put ky ⟨.inr hh,.inr rfl,λq=>nX l₂ uC (S.sub l₂ q),λq=>nX l₂ uC (q▸S.xL),o2⟩ (λa' d' e j Fu hj q=>by cases e;exact nW l₂ uC (.inr (.inr ⟨j,Fu,q⟩)));have KY:∀a',Wr F (ρ.set iy (.own l₂ cN)) a'->Wr F ρ a'\/a'=l₂:=λa' q=>by
  rcases q with q|q|⟨j,d',q⟩
  .exact .inl (.inl q)
  .exact .inl (.inr (.inl q))
  by_cases hj:j=iy
  ·(replace hj:=V7 hj;subst hj)
   rw[Uk]at q;simp only[V8]at q;split at q<;>cases q<;>exact .inr rfl
  rw[Tq (λz=>hj z.symm)]at q;exact .inl (.inr (.inr ⟨j,d',q⟩))
 refine eW (s:={au with heap:=h₂,toks:=tk}) S5 kx λdM Pr S6 Iq e8=>VV ?_;have Oe:¬Wr F (ρ.set iy (.own l₂ cN)) l₁:=λq=>(KY _ q).elim (nW l₁ w8) Rk;have PM:bt G dM (λb=>(X b\/b=l₁)\/b=l₂) l₁ bL:=zu l₁ bL _ _ _ Oe (λb q=>(KY b q).elim (λz=>.inl (S.mz b z)) λz=>.inr (.inr z)) e8.keep o1;have S7:=S6.put (sl:=.own l₁ bL) kx ⟨.inr Iq,.inl (.inr rfl),λq=>nX l₁ w8 (S.sub l₁ q),λq=>nX l₁ w8 (q▸S.xL),PM⟩ (λa' d' e j Fu hj q=>by cases e;exact Oe (.inr (.inr ⟨j,Fu,q⟩)));refine⟨_,_,.next,h l₁ l₂,S7,⟨λb o n hb e=>?_,λb o e=>(aO (h1.there b o e) λGf dE=>aO (h3.there b Gf dE) λGe cS=>aO (ex.there b Ge cS) λNS zd=>aO (hk.there b NS zd) λNR NK=>e8.there b NR NK),λT=>e8.tb (hk.tb (ex.tb (h3.tb (h1.tb T)))),λb q=>?_,λb q=>?_,λb q=>.inl (.inl (.inl q)),ex.os.trans (h3.os.trans h1.os),λg=>ex.gens (h3.gens (h1.gens g))⟩,rfl⟩
 .have e2:=ex.keep b o n (h3.keep b o n (h1.keep b o n e));have nB:¬Wr F (ρ.set iy (.own l₂ cN)) b:=λq=>(KY b q).elim hb λz=>by rw[z,uC]at e;exact cG e
  exact e8.keep b o nB (hk.keep b o hb e2)
 .rcases q with q|q|⟨j,d',q⟩
  .exact .inl (.inl q)
  .exact .inl (.inr (.inl q))
  by_cases hj:j=ix
  ·(replace hj:=V7 hj;subst hj)
   rw[Uk]at q;simp only[V8]at q;split at q<;>cases q<;>exact .inr w8
  rw[Tq (λz=>hj z.symm)]at q;exact(KY b (.inr (.inr ⟨j,d',q⟩))).imp id λz=>by rw[z];exact uC
 rcases q with(q|q)|q
 .exact .inl q
 .exact .inr (q▸w8)
 exact .inr (q▸uC)
def xP(xs:Array Value)(a:Nat):((List.range a).filterMap λ(k:Nat)=>xs[((0:Int)+(k:Int)*1).toNat]?).toArray=(xs.toList.take a).toArray:=by
 have e:(λ(k:Nat)=>xs[((0:Int)+(k:Int)*1).toNat]?)=(λx=>xs[x]?)∘λk=>0+k:=by
  funext k;have:((0:Int)+(k:Int)*1).toNat=0+k:=by exact Nat.add_comm _ _
  exact V4 _ ‹_›
 (refine Eq.substr e ?_;refine Eq.substr (V7 filterMap_map) ?_;rw[pick_run];exact V4 _ Vp)
def rT{vs:List Value}(ht:IsTup s.heap t vs.toArray)(hs:s.heap.IsSliceOf sl .none (.int a u) .none)(ha:a<vs.length)(hz:vs.length<=sizeLine)
 (h:Q (.ref s.heap.objs.size) {s with heap:=s.heap.push {cls:=.type "tuple",data:=.seq (vs.take a).toArray}}):wpAny (M G) A (getItem (.ref t) (.ref sl)) Q E s:=by
 have hsz:sizeOk (.seq (vs.take a).toArray):=by refine(?_:(vs.take a).toArray.size<=sizeLine);rw[Ud,UC];lia
 refine bq (id hs) λos Lq D2 Fq=>?_;have Q8:s.TypeIs (.ref sl) "slice":=⟨os,Lq,D2⟩;unfold getItem
 try with_reducible refine Vx ?_
 refine VU (wpAny_sequenceKey ht.typeIs (by rfl) ?_);refine VU (SP (name:=Str.ofString "__getitem__") ht.typeIs slot_tuple_getitem (UQ slot_tuple_getitem ht.typeIs entry_tuple_getitem ?_ (args_tuple_getitem _ _)));refine(?_:wpAny _ _ (Builtin.Tuple.tupleItemsOf (.ref t)>>=_) _ _ s);refine VU (tupleItemsOf_ ht ?_);refine VU (wpAny_typeOf Q8 ?_);rw[if_pos (by rfl)];have Q3:wpAny (M G) A.in1 (Builtin.Slice.sliceApplied (.ref sl) (pure (vs.toArray.size:Int))) (λr s'=>r=((0:Int),(1:Int),a)/\s'=s) E s:=by
  unfold Builtin.Slice.sliceApplied Builtin.Slice.sliceFields;refine VU (VU (VQ Lq Fq (x:=.none) rfl (VU (VQ Lq Fq (x:=.int a u) rfl (VU (VQ Lq Fq (x:=.none) rfl (VV ?_)))))));refine VU (slicePart_none ?_);refine(?_:wpAny _ _ (if((1:Int)==0)=true then _ else _) _ _ s);rw[if_neg (by decide)];refine VU (slicePart_none (VU (slicePart_int (VU (VV ?_)))));have e1:Builtin.Slice.sliceAdjust none (some (a:Int)) 1 (vs.toArray.size:Int)=((0:Int),(a:Int)):=by
   unfold Builtin.Slice.sliceAdjust;have h1:¬((1:Int)<0):=by decide
   have h2:¬((a:Int)<0):=by exact not_ofNat_neg a
   simp only[h1,h2,V6];congr 1;rw[Ud];lia
  have e2:Builtin.Slice.slicePlaces 0 (a:Int) 1=a:=by
   unfold Builtin.Slice.slicePlaces;have h1:(1:Int)>0:=by exact VT _
   simp only[h1,V8,ediv_one];split<;>lia
  refine(?_:wpAny _ _ (match Builtin.Slice.sliceAdjust none (some (a:Int)) 1 (vs.toArray.size:Int)with|(lo,hi)=>pure (lo,(1:Int),Builtin.Slice.slicePlaces lo hi 1)) _ _ s);rw[e1];refine(?_:wpAny _ _ (pure ((0:Int),(1:Int),Builtin.Slice.slicePlaces 0 (a:Int) 1)) _ _ s);rw[e2];exact VV ⟨rfl,rfl⟩
 refine VU (VW Q3 (λr s' Na=>cu Na λq1 q2=>?_) λ_ _ e=>e);subst q1 q2;have Cb:¬(((0:Int)==0&&(1:Int)==1&&a==vs.toArray.size)=true):=by
  have:(a==vs.toArray.size)=false:=by rw[TH,Ud];exact VL ‹_›
  rw[this];decide
 refine(?_:wpAny _ _ (if((0:Int)==0&&(1:Int)==1&&a==vs.toArray.size)=true then _ else _) _ _ _);rw[if_neg Cb,xP vs.toArray a]
 first
  |exact VU (m:=Builtin.Tuple.tupleExact _) (Uo (VV ⟨_,rfl,VV h⟩) hsz)
  |exact VU (m:=Builtin.Tuple.tupleExact _) (Uo (VU (VV (VV ⟨_,rfl,VV h⟩))) hsz)
  |exact VU (VU (m:=Builtin.Tuple.tupleExact _) (Uo (VV (VV ⟨_,rfl,VV h⟩)) hsz))
  |exact VU (VU (m:=Builtin.Tuple.tupleExact _) (Uo (VV ⟨_,rfl,VV h⟩) hsz))
def xN{a:Nat}(ha:a<ds.length)(hz:ds.length<=sizeLine):PS G n (.tup ds) none (some (a:Int)) (.tup (ds.take a)):=λA s X v sl ql qu R S r e f hs pl pu=>by
 obtain⟨l,vs,rfl,hx,hl,hr⟩:=aQ.mp r;refine⟨⟨"tuple",_,(bq hl λo ho hc _=>⟨o,ho,hc⟩),slot_tuple_getitem.lookup⟩,?_⟩;induction ql using Option.casesOn with
 |some q=>exact yq e
 |none=>
  induction qu using Option.casesOn with
  |none=>exact cG f
  |some q=>obtain⟨i,u⟩:=q;obtain rfl:=Option.some.inj f;exact rT hl hs (by rw[hr.length];exact ha) (by rw[hr.length];exact hz) ⟨.push,aQ.mpr ⟨_,_,rfl,S.fresh,iV,Ext.push.pk (hr.take a)⟩⟩
end
section
open PySem PySem.W PyProof.Rows
noncomputable abbrev pw:=PySem.Challenge.pw_wz0018_01
set_option genInjectivity false in
structure Parts(k:Nat) where
 name:Str
 params:Arguments
 body:List Stmt
 scope:Scope
 pos:Pos
 ok:(recsOf pw)[k]? =some ⟨name,params,body,scope,pos⟩
noncomputable def uX:Parts 0:=⟨_,_,_,_,_,rfl⟩
noncomputable def bN:Parts 1:=⟨_,_,_,_,_,rfl⟩
noncomputable def JB:Parts 2:=⟨_,_,_,_,_,rfl⟩
noncomputable def JC:Parts 3:=⟨_,_,_,_,_,rfl⟩
noncomputable def JD:Parts 4:=⟨_,_,_,_,_,rfl⟩
noncomputable def JA:Parts 5:=⟨_,_,_,_,_,rfl⟩
noncomputable def lW:Parts 6:=⟨_,_,_,_,_,rfl⟩
noncomputable def Ao:Parts 7:=⟨_,_,_,_,_,rfl⟩
noncomputable def l8:Parts 8:=⟨_,_,_,_,_,rfl⟩
noncomputable def uY:Parts 9:=⟨_,_,_,_,_,rfl⟩
noncomputable def uZ:Parts 10:=⟨_,_,_,_,_,rfl⟩
noncomputable def F8:Parts 11:=⟨_,_,_,_,_,rfl⟩
noncomputable def mL:Parts 12:=⟨_,_,_,_,_,rfl⟩
noncomputable def zK:Parts 13:=⟨_,_,_,_,_,rfl⟩
noncomputable def EO:Parts 14:=⟨_,_,_,_,_,rfl⟩
noncomputable def An:Parts 15:=⟨_,_,_,_,_,rfl⟩
noncomputable def uW:Parts 16:=⟨_,_,_,_,_,rfl⟩
noncomputable def jh:Parts 17:=⟨_,_,_,_,_,rfl⟩
structure Wd(G:Gd):Prop where
 fn:∀d∈recsOf pw,FnAt G d.name d.params d.body d.scope
 len:Bn G (Str.ofString "len") (.builtin "len")
 min:Bn G (Str.ofString "min") (.builtin "min")
 max:Bn G (Str.ofString "max") (.builtin "max")
 abs:Bn G (Str.ofString "abs") (.builtin "abs")
 sum:Bn G (Str.ofString "sum") (.builtin "sum")
 sorted:Bn G (Str.ofString "sorted") (.builtin "sorted")
 isinstance:Bn G (Str.ofString "isinstance") (.builtin "isinstance")
 range:Bn G (Str.ofString "range") (.type "range")
 list:Bn G (Str.ofString "list") (.type "list")
 zip:Bn G (Str.ofString "zip") (.type "zip")
 enumerate:Bn G (Str.ofString "enumerate") (.type "enumerate")
 tuple:Bn G (Str.ofString "tuple") (.type "tuple")
 endmarker:∃t,G.mg (Str.ofString "ENDMARKER")=some (.int 0 t)
 lC:∃t,G.mg (Str.ofString "NT_OFFSET")=some (.int 256 t)
 ni:∃t,G.mg (Str.ofString "_MAX_STRING_SIZE")=some (.int 40 t)
 ej:∃t,G.mg (Str.ofString "_MOVE_COST")=some (.int 2 t)
 oL:∃t,G.mg (Str.ofString "_CASE_COST")=some (.int 1 t)
def Wd.at_(W:Wd G)(p:Parts k):FnAt G p.name p.params p.body p.scope:=W.fn ⟨p.name,p.params,p.body,p.scope,p.pos⟩ (To p.ok)
noncomputable def uh:List Str->RE->Str->Option (Nat×Slot)
 |y::ys,sl::ρ,x=>if(x==y)=true then some (0,sl)else(uh ys ρ x).map λp=>(p.1+1,p.2)
 |_,_,_=>none
theorem fZ:∀{vars:List Str} {ρ:RE} {x:Str} {i:Nat} {sl:Slot},uh vars ρ x=some (i,sl)->vars[i]? =some x/\ρ[i]? =some sl
 |y::ys,s::ρ,x,i,sl,h=>by
  replace h:(if(x==y)=true then some (0,s)else(uh ys ρ x).map λp=>(p.1+1,p.2))=some (i,sl):=h;split at h
  .rename_i e
   cases h;exact⟨by rw[VX.mp e];rfl,rfl⟩
  (refine ao (SS.mp h) λaB h1 h2=>?_;obtain⟨j,Px⟩:=aB)
  cases h2;have h3:=fZ (vars:=ys) (ρ:=ρ) (x:=x) (i:=j) (sl:=Px) h1;exact h3
 |[],_,_,_,_,h=>cG h
 |_::_,[],_,_,_,h=>cG h
section
variable{G:Gd}{F:Fx}{n:Nat}{ρ:RE}{k:Bool}
def Ev.nm (h:uh F.vars ρ x=some (i,.val d)) (hd:autoParam ((x==("__debug__":Str))=false) tD) (hn:autoParam ((x==("__classdict__":Str))=false) tD):Ev G F n ρ k (.Name x p) d:=
 Ev.name i (fZ h).1 (fZ h).2 hd hn
def Ev.Hy (h:uh F.vars ρ x=some (i,.own a d)) (hd:autoParam ((x==("__debug__":Str))=false) tD) (hn:autoParam ((x==("__classdict__":Str))=false) tD) (eH:autoParam ((x==accN)=false) tD):Ev G F n ρ true (.Name x p) d:=
 Ev.Dh i (fZ h).1 (fZ h).2 hd hn eH
end
noncomputable def noStar(e:Expr):Bool:=e.ctorIdx !=22
def iL(h:noStar e=true):starEach (e::es) env=(false,eval e env)::starEach es env:=by induction e using Expr.casesOn<;>first|rfl|exact fR h
def Ab(h:b≠0)(hb:b.natAbs<2^64):P2 G n (.int a) (.int b) (binaryOp .FloorDiv) (.int (a.fdiv b)):=Ei h (by
 have h1:b.natAbs.log2<64:=(log2_lt (by exact(ar 1 2 [_] [_] [.n (.Q Qa K0),.i vP (.Q bA Qa),.i (.E Qa K0) (.Q bA (.g Qa))] (.n (.q Va K0))) h Tv Sv)).mpr hb;unfold Builtin.divisionGoesByPylong;have h0:(b==0)=false:=TH.mpr h;simp only[h0,Bool.and_eq_false_iff,SN];left;have:b.natAbs.log2/30+1<=300:=by exact(A2 [.l Va (.c 64),.e (.m 30 Vb) Va] (.e f9 (.c 300))) h1 (Vn _ _)
 simpa using this)
end
section
open PySem PySem.W PyProof.Rows
section
variable{G:Gd}{F:Fx}{n:Nat}{ρ:RE}{k:Bool}
noncomputable def nA:List Str->Str->Option Nat
 |y::ys,x=>if(x==y)=true then some 0 else(nA ys x).map (·+1)
 |[],_=>none
theorem iO:∀{vars:List Str} {x:Str} {i:Nat},nA vars x=some i->vars[i]? =some x
 |y::ys,x,i,h=>by
  replace h:(if(x==y)=true then some 0 else(nA ys x).map (·+1))=some i:=h;split at h
  .rename_i e;obtain rfl:=Option.some.inj h;rw[VX.mp e];rfl
  refine ao (SS.mp h) λj h1 h2=>?_
  cases h2;have h3:=iO (vars:=ys) (x:=x) (i:=j) h1;exact h3
 |[],_,_,h=>by trivial
def d6.kg{vars:List Str}{i:Nat}{x:Str}(hn:vars.Nodup)(h:vars[i]? =some x):∀j,j≠i->vars[j]?≠some x:=λj hj e=>by refine aO (SF.mp h) λh1 e1=>?_;refine aO (SF.mp e) λh2 e2=>?_;exact hj ((getElem_inj hn).mp (e2.trans e1.symm))
def d6.loc{x:Str}{i:Nat}(h:nA F.vars x=some i)(hk:F.env.kindOf x=some .local)(hn:F.vars.Nodup):d6 F i x:=⟨iO h,d6.kg hn (iO h),.inl hk⟩
def d6.cell{x:Str}{i:Nat}{c:Addr}(h:nA F.vars x=some i)(hk:F.env.kindOf x=some .cell)(hc:F.env.cells.lookup x=some c)(hl:F.env.locals<c)(hn:F.vars.Nodup):d6 F i x:=⟨iO h,d6.kg hn (iO h),.inr ⟨hk,c,hc,hl⟩⟩
def Ev.CO(x:cv G F n ρ t c)(y:c=true->Ev G F n ρ k b bL)(z:c=false->Ev G F n ρ k o cN):Ev G F n ρ k (.IfExp t b o pos) (if c=true then bL else cN):=
 Ev.ite x (λh=>by rw[if_pos h];exact y h) λh=>by rw[if_neg (by rw[h];decide)];exact z h
def cv.Cw(h:Ev G F n ρ true e (.str x))(hz:x.length<2^40)(he:autoParam (isTrue e F.env (eval e F.env)=(do let v<-eval e F.env;standAt e.pos;holding [v] (truthy v))) tR):cv G F n ρ e ((x.length:Int) !=0):=cv.val h (Ec hz) he
def Ev.kb (h:∃t,G.mg x=some (.int i t)) (hx:F.env.kindOf x=some .globalImplicit) (hd:(x==("__debug__":Str))=false):Ev G F n ρ k (.Name x p) (.int i):=by refine aO h λt h=>?_;exact Ev.glob hx h (λ_ _ _=>bO) hd
def Ev.PZ{x:Str}{p:Pos}{slice:Expr}{pos:Pos}(hm:uh F.vars ρ x=some (m,.own l (.list ds)))(b:Ev G F n ρ true slice (.int i))(h:At ds i d)
 (hd:(x==("__debug__":Str))=false)(hn:(x==("__classdict__":Str))=false)(eH:(x==accN)=false)(hs:k6 slice):Ev G F n ρ k (.Subscript (.Name x p) slice pos) d:=
 Ev.Kg m (fZ hm).1 (fZ hm).2 b h hd hn eH hs
end
noncomputable def S(x:String):Str:=Str.ofString x
noncomputable def aa(xs:List Int):D:=.list (xs.map .int)
noncomputable def dp(script ds:List Int)(p:Nat):List Int:=ds.set (p%6) (ds.getD (p%6) 0+(script.getD p 0).fmod 1000000)
noncomputable def oq:List Int:=[76,17,56,118,31,16]
noncomputable def drawsOf(script:List Int):List Int:=(List.range (min 60 script.length)).foldl (dp script) oq
def yg(script:List Int):∀(ps:List Nat) (ds:List Int),(ps.foldl (dp script) ds).length=ds.length:=by
 intro l';induction l' with
 |nil=>exact @λds=>rfl
 |cons p ps aU=>exact @λds=>by simp only[UY,aU];simp[dp]
def iP(n:Nat):(cH 0 (n:Int) 1)=(List.range n).map (λ(i:Nat)=>(i:Int)):=by
 unfold cH;rw[rangeSize_one];have:(if(0:Int)<n then(n:Int) - 0 else 0).toNat=n:=by split<;>lia
 rw[this];apply TK;intro a _;exact(A1 [] (.Q (.a K0 (.r bA 1)) bA))
def mi{m i:Nat}(h:((cH 0 (m:Int) 1).map D.int)[i]? =some d):i<m/\d=.int (i:Int):=by
 rw[iP,VA,Uc]at h;obtain⟨j,hj,rfl⟩:=SS.mp h;have hi:i<m:=by have:=(SF.mp hj).1;simpa using this
 rw[TL hi]at hj;obtain rfl:=Option.some.inj hj;exact⟨hi,rfl⟩
def mh(m:Nat):((cH 0 (m:Int) 1).map D.int).length=m:=by rw[iP];simp
def Bv{G:Gd}(W:Wd G)(script:List Int)(hz:script.length<2^20):Fn G Ao.name (n+1) [aa script] (aa (drawsOf script)):=by
 refine Fn.intro (W.at_ Ao) [S "script",S "draws",S "place"] (λL a cd aD=>?_) (λv pm cd doc=>rfl) (by decide) (by exact VC _) (by decide);have hv:[S "script",S "draws",S "place"].Nodup:=by decide
 refine Ex.cons (bQ.fw 1 (d6.loc rfl rfl hv) (mB.list (ds:=[.int 76,.int 17,.int 56,.int 118,.int 31,.int 16]) (by refine(b8.cons (a:=Ev.cw) (b:=(b8.cons (a:=Ev.cw) (b:=(b8.cons (a:=Ev.cw) (b:=(b8.cons (a:=Ev.cw) (b:=(b8.cons (a:=Ev.cw) (b:=(b8.cons (a:=Ev.cw) (b:=b8.nil))))))))))))) (by exact Tc rfl)) (λl=>?_) (hi:=by exact Tc rfl));have hm:min (60:Int) ((script.map D.int).length:Nat)=((min 60 script.length:Nat):Int):=by simp;exact(A1 [] (.Q (.i (.c 60) bA) (.o (.i (.c 60) Va))))
 refine Ex.cons (bQ.xp (λi ρ=>∃sl,ρ=[.val (aa script),.own l (aa ((List.range i).foldl (dp script) oq)),sl]) (ef.range (out:=(cH 0 ((min 60 script.length:Nat):Int) 1).map .int) W.range rfl (ds:=[.int ((min 60 script.length:Nat):Int)]) ?_ pr_1 (small_one (by exact TY _) (by exact TY _) (by exact TY _) (by exact(A1 [] (.L (.o (.i (.c 60) Va)) Ck)))) rfl) ⟨.no,rfl⟩ ?_ ?_)
 .rw[<-hm];refine(b8.cons (a:=(Ev.i7 (x:=Str.ofString "min") (b:=Wd.min (by assumption)) (hx:=rfl) (a:=(b8.cons (a:=Ev.cw) (b:=(b8.cons (a:=(Ev.i7 (x:=Str.ofString "len") (b:=Wd.len (by assumption)) (hx:=rfl) (a:=(b8.cons (Ev.nm rfl) (b:=b8.nil))) (pl:=(Eo ?_)))) (b:=b8.nil))))) (pl:=sN))) (b:=b8.nil));simp;exact TZ ‹_› (by exact Tc rfl)
 .intro i d az hd bx;obtain⟨sl,rfl⟩:=bx;obtain⟨hi,rfl⟩:=mi hd;have hlen:((List.range i).foldl (dp script) oq).length=6:=yg script _ _;refine bH _ (As.name 2 (d6.loc rfl rfl hv)) ?_;refine Ex.cons (bQ.NT (bL:=.int (((List.range i).foldl (dp script) oq).getD (i%6) 0)) (cN:=.int ((script.getD i 0).fmod 1000000)) (j:=i%6) 1 rfl rfl ?_ ?_ ?_ ro ?_ ?_)
  .have e:((i%6:Nat):Int)=(i:Int).fmod 6:=by rw[Sz _ (by exact TY _)];rfl
   rw[e];refine(Ev.bin (a:=(Ev.nm rfl)) (b:=Ev.cw) (p:=(mF ?_)));decide
  ·(refine V3 Uc ?_;refine Eq.substr Su ?_;refine Eq.substr (SK (by exact(A2 [.q Va (.c 6),.l Vb (.c 6)] (.l Vb Va)) hlen (VZ _ (by decide)))) ?_);rfl
  .have hs:At (script.map D.int) (i:Int) (.int (script.getD i 0)):=At.nat (by (refine V3 Uc ?_;refine Eq.substr Su ?_;refine Eq.substr (SK (by exact(A2 [.l Va (.i (.c 60) Vb)] nE) hi)) ?_);rfl) (by simp;exact TZ ‹_› (by exact Tc rfl));refine(Ev.bin (a:=(Ev.zw (a:=(Ev.nm rfl)) (b:=(Ev.nm rfl)) (h:=hs))) (b:=Ev.cw) (p:=(mF (by decide))))
  .simp;exact(A1 [.q Va (.c 6)] (.l Va o9)) hlen
  refine Ex.nil ⟨.val (.int i),?_⟩;refine(?_:[_,_,_]=_);(refine Eq.substr U4 ?_;refine Eq.substr Ui ?_);simp[dp,aa,map_set]
 intro az bx;obtain⟨sl,rfl⟩:=bx;rw[mh];refine Ex.cons (bQ.ret (d:=aa (drawsOf script)) ?_ rfl);exact Ev.Hy rfl
def intIte(p:Prop)[Decidable p](a b:Int):D.int (if p then a else b)=if decide p=true then D.int a else D.int b:=by
 by_cases h:p
 .rw[if_pos h,if_pos (Vk h)]
 rw[if_neg h,if_neg (by simpa using h)]
noncomputable def one(c:Nat):Str:=⟨#[c]⟩
def Hk(W:Wd G)(x:Int):Fn G (Str.ofString "ISEOF") (n+1) [.int x] (.bool (decide (x=0))):=by refine Fn.intro (name:=JD.name) (W.at_ JD) [S "x"] (λL a cd aD=>?_) (λv pm cd doc=>rfl) (by decide) (VC _) (by decide);refine Ex.cons (bQ.ret (d:=.bool (decide (x=0))) ?_ rfl);refine(?_:Ev G _ n [.val (.int x)] _ _ _);refine(Ev.cmp (x:=(Ev.nm rfl)) (y:=(Ev.kb (x:=Str.ofString "ENDMARKER") (h:=Wd.endmarker (by assumption)) (hx:=rfl) (hd:=by decide))) (p:=CI))
def Hi(W:Wd G)(x:Int):Fn G (Str.ofString "ISTERMINAL") (n+1) [.int x] (.bool (decide (x<256))):=by refine Fn.intro (name:=JB.name) (W.at_ JB) [S "x"] (λL a cd aD=>?_) (λv pm cd doc=>rfl) (by decide) (VC _) (by decide);refine Ex.cons (bQ.ret (d:=.bool (decide (x<256))) ?_ rfl);refine(?_:Ev G _ n [.val (.int x)] _ _ _);refine(Ev.cmp (x:=(Ev.nm rfl)) (y:=(Ev.kb (x:=Str.ofString "NT_OFFSET") (h:=Wd.lC (by assumption)) (hx:=rfl) (hd:=by decide))) (p:=CH))
def Hj(W:Wd G)(x:Int):Fn G (Str.ofString "ISNONTERMINAL") (n+1) [.int x] (.bool (decide (256<=x))):=by refine Fn.intro (name:=JC.name) (W.at_ JC) [S "x"] (λL a cd aD=>?_) (λv pm cd doc=>rfl) (by decide) (VC _) (by decide);refine Ex.cons (bQ.ret (d:=.bool (decide (256<=x))) ?_ rfl);refine(?_:Ev G _ n [.val (.int x)] _ _ _);refine(Ev.cmp (x:=(Ev.nm rfl)) (y:=(Ev.kb (x:=Str.ofString "NT_OFFSET") (h:=Wd.lC (by assumption)) (hx:=rfl) (hd:=by decide))) (p:=IS))
noncomputable def gO(a b:Str):Int:=if a=b then 0 else if Txt.lower a=Txt.lower b then 1 else 2
def Hg(W:Wd G)(a b:Str)(ha:Builtin.Str.tooLong (Txt.lower a).length=false)(hb:Builtin.Str.tooLong (Txt.lower b).length=false):Fn G (Str.ofString "_substitution_cost") (n+1) [.str a,.str b] (.int (gO a b)):=by
 refine Fn.intro (name:=JA.name) (W.at_ JA) [S "ch_a",S "ch_b"] (λL l cd aD=>?_) (λv w pm cd doc=>rfl) (by decide) (Tc rfl) (by decide);refine(?_:Ex G _ n [.val (.str a),.val (.str b)] _ _);refine Ex.cons (bQ.ite (c:=decide (a=b)) (by refine(cv.cmp (x:=(Ev.nm rfl)) (y:=(Ev.nm rfl)) (p:=nM))) (λh=>?_) λh=>Ex.nil ?_)
 .refine Ex.cons (bQ.ret (d:=.int 0) (by refine Ev.cw) ?_);simp at h;simp[gO,h]
 refine Ex.cons (bQ.ite (c:=decide (Txt.lower a=Txt.lower b)) (by refine(cv.cmp (x:=(Ev.sL (name:=Str.ofString "lower") (m:=tm) (a:=(Ev.nm rfl)) (hT:=rfl) (pl:=(wC ?_)))) (y:=(Ev.sL (name:=Str.ofString "lower") (m:=tm) (a:=(Ev.nm rfl)) (hT:=rfl) (pl:=(wC ?_)))) (p:=nM))<;>assumption) (λh'=>?_) λh'=>Ex.nil ?_)
 .refine Ex.cons (bQ.ret (d:=.int 1) (by refine(Ev.kb (x:=Str.ofString "_CASE_COST") (h:=Wd.oL (by assumption)) (hx:=rfl) (hd:=by decide))) ?_);simp at h h';simp[gO,h,h']
 refine Ex.cons (bQ.ret (d:=.int 2) (by refine(Ev.kb (x:=Str.ofString "_MOVE_COST") (h:=Wd.ej (by assumption)) (hx:=rfl) (hd:=by decide))) ?_);simp at h h';simp[gO,h,h']
noncomputable def fF(x:Str)(spot:Int)(c:Nat):Int:=spot+(if jV x (some spot) (some (spot+1))=one c then 1 else 0)
noncomputable def et(x y:Str):Int:=if(y.cps.toList.foldl (fF x) 0)=x.length then 0 else 1
def Bu(W:Wd G)(x y:Str)(hx:x.length<2^20):Fn G (Str.ofString "_law_lacks") (n+1) [.str x,.str y] (.int (et x y)):=by
 refine Fn.intro (name:=An.name) (W.at_ An) [S "one",S "text",S "spot",S "sign"] (λL l cd aD=>?_) (λv w pm cd doc=>rfl) (by decide) (Tc rfl) (by decide);have hv:[S "one",S "text",S "spot",S "sign"].Nodup:=by decide
 refine Ex.cons (bQ.assign (d:=.int 0) 2 (d6.loc rfl rfl hv) (by refine Ev.cw) ?_);refine Ex.cons (bQ.xp (λi ρ=>∃sl,ρ=[.val (.str x),.val (.str y),.val (.int ((y.cps.toList.take i).foldl (fF x) 0)),sl]) (ef.of (Ev.nm rfl) wm) ⟨.no,rfl⟩ ?_ ?_)
 .intro i d az hd bx;obtain⟨sl,rfl⟩:=bx;unfold iC at hd;rw[Uc]at hd;obtain⟨c,hc,rfl⟩:=SS.mp hd;refine bH _ (As.name 3 (d6.loc rfl rfl hv)) ?_;generalize Ca:(y.cps.toList.take i).foldl (fF x) 0=sp;refine(?_:Ex G _ n [.val (.str x),.val (.str y),.val (.int sp),.val (.str (one c))] _ _);refine Ex.cons (bQ.aug (cN:=.int (if jV x (some sp) (some (sp+1))=one c then 1 else 0)) 2 (d6.loc rfl rfl hv) rfl ?_ ro ?_)
  .rw[intIte];refine(Ev.CO (x:=(cv.cmp (x:=(Ev.slice (a:=(Ev.nm rfl)) (b:=(nG.num (h:=(Ev.nm rfl)))) (c:=(nG.num (h:=(Ev.bin (a:=(Ev.nm rfl)) (b:=Ev.cw) (p:=p_add))))) (h:=(n5 ?_)))) (y:=(Ev.nm rfl)) (p:=nM))) (y:=λ_=>Ev.cw) (z:=λ_=>Ev.cw));refine(?_:x.length<=16777216);exact(A1 [.l Va ra] (.e Va kF)) hx
  refine Ex.nil ⟨.val (.str (one c)),?_⟩;(refine Eq.substr Ug ?_;refine Eq.substr hc ?_);simp[Ca,fF]
 intro az bx;obtain⟨sl,rfl⟩:=bx;have e:(y.cps.toList.take (iC y).length)=y.cps.toList:=by unfold iC;rw[US,UA]
 rw[e];refine Ex.cons (bQ.ret (d:=.int (et x y)) ?_ rfl);unfold et;rw[intIte];refine(Ev.CO (x:=(cv.cmp (x:=(Ev.nm rfl)) (y:=(Ev.i7 (x:=Str.ofString "len") (b:=Wd.len (by assumption)) (hx:=rfl) (a:=(b8.cons (Ev.nm rfl) (b:=b8.nil))) (pl:=(kh ?_)))) (p:=CI))) (y:=λ_=>Ev.cw) (z:=λ_=>Ev.cw));exact TZ ‹_› (Tc rfl)
noncomputable abbrev T(l:List Nat):Str:=⟨l.toArray⟩
def cJ(l:List Nat):(T l).length=l.length:=by rfl
def qc(h:T a=T b):a=b:=by have:=V4 (λx:Str=>x.cps.toList) h;simpa using this
def jx(n i:Nat):clipAt n (i:Int)=min i n:=by have:=clipAt_cast n (i:Int);exact clipAt_nat n i
def tN(n j:Nat)(h:0<j):clipAt n (-(j:Int))=n - j:=by have:=clipAt_cast n (-(j:Int));exact clipAt_neg n j h
def qN(l:List Nat)(i:Nat):jV (T l) (some (i:Int)) none=T (l.drop i):=by
 delta jV cut;simp only[Option.elim,jx];congr 2;by_cases h:i<=l.length
 ·(refine Eq.substr (U3 h) ?_;exact(SU (by simp)))
 (refine Eq.substr (UM (UN h)) ?_;refine Eq.substr (drop_eq_nil_of_le (VP _)) ?_;refine V3 ?_ (V7 (drop_eq_nil_of_le (UN h))));simp
noncomputable def Cz(j:Nat):Option Int:=if j=0 then none else some (-(j:Int))
def yh(l:List Nat)(j:Nat):jV (T l) none (Cz j)=T (l.take (l.length - j)):=by
 delta jV cut Cz;by_cases h:j=0
 .subst h;rfl
 rw[if_neg h];simp only[Option.elim,tN _ _ (Nat.pos_of_ne_zero h),Vp,Nat.sub_zero]
noncomputable def fH:List Nat->List Nat->Nat
 |x::xs,y::ys=>if x=y then fH xs ys+1 else 0
 |_,_=>0
def KO:fH [] b=0:=rfl
def KP{x:Nat}:fH (x::xs) []=0:=rfl
def zN{x y:Nat}:fH (x::xs) (y::ys)=if x=y then fH xs ys+1 else 0:=rfl
theorem ve:∀(a b:List Nat) (i:Nat),i<=fH a b->(i<fH a b↔(i<a.length/\i<b.length/\a[i]? =b[i]?))
 |[],b,i,h=>by simp[KO]at h⊢
 |_::_,[],i,h=>by simp[KP]at h⊢
 |x::xs,y::ys,0,h=>by rw[zN];by_cases e:x=y<;>simp[e]
 |x::xs,y::ys,i+1,h=>by
  rw[zN]at h⊢;by_cases e:x=y
  .rw[if_pos e]at h⊢;have:=ve xs ys i (le_of_lt_succ h);simp only[Ux,getElem?_cons_succ];simp only[show(i+1<fH xs ys+1)=(i<fH xs ys) by simp,this];constructor
   .exact λm8=>dW m8 λh1 h2 h3=>⟨by lia,by lia,h3⟩
   exact λw5=>dW w5 λh1 h2 h3=>⟨by lia,by lia,h3⟩
  rw[if_neg e]at h;exact(U5 _ ‹_›).elim
section
variable{G:Gd}{F:Fx}{n:Nat}{ρ:RE}
def pI(l:List Nat)(i:Nat):(((T (l.drop i)).length:Int) !=0)=decide (i<l.length):=by
 rw[cJ,UO];by_cases h:i<l.length
 .rw[Vk h];exact V2.mpr ((A2 [.l Va Vb] (.n (.Q (.o ux) K0))) h)
 rw[U1 h];simp;exact(A2 [.n nE] (.q ux K0)) h
def pF(l:List Nat)(j:Nat):(((T (l.take (l.length - j))).length:Int) !=0)=decide (j<l.length):=by
 rw[cJ,UC];by_cases h:j<l.length
 .rw[Vk h];exact V2.mpr ((A2 [.l Va Vb] (.n (.Q (.o (.i ux Vb)) K0))) h)
 rw[U1 h];simp;exact(A2 [.n nE] (.q ux K0)) h
def Av{la lb:List Nat}{i j:Nat}(h1:la[i]? =some c)(h2:lb[j]? =some d):decide (one c=one d)=decide (la[i]? =lb[j]?):=by
 simp only[h1,h2];by_cases e:c=d
 .subst e;simp
 have:one c≠one d:=λq=>e (by have:=V4 (λx:Str=>x.cps.toList) q;simpa[one]using this);simp[this,e]
def M7{x y z:Str}{p1 p2 p3 p4 p5 p6 p7 p8 q1 q2 q3 q4 q5 q6 q7 pos:Pos}{i:Nat}(a:∀k p,Ev G F n ρ k (.Name x p) (.str (T la)))(b:∀k p,Ev G F n ρ k (.Name y p) (.str (T lb)))(c:∀k p,Ev G F n ρ k (.Name z p) (.int (i:Int)))(ha:la.length<2^20)(hb:lb.length<2^20)(hi:i<=fH la lb):
 cv G F n ρ (.BoolOp .And [.Subscript (.Name x p1) (.Slice (some (.Name z p2)) none none p3) p4,.Subscript (.Name y p5) (.Slice (some (.Name z p6)) none none p7) p8,.Compare (.Subscript (.Name x q1) (.Name z q2) q3) [.Eq] [.Subscript (.Name y q4) (.Name z q5) q6] q7] pos) (decide (i<fH la lb)):=by
 have sl:∀(l:List Nat) (x:Str) (p1 p2 p3 p4:Pos),l.length<2^20->(∀k p,Ev G F n ρ k (.Name x p) (.str (T l)))->cv G F n ρ (.Subscript (.Name x p1) (.Slice (some (.Name z p2)) none none p3) p4) (decide (i<l.length)):=λl x p1 p2 p3 p4 hl a=>by refine cv.to (cv.Cw (x:=T (l.drop i)) ?_ (by rw[cJ,UO];exact(A2 [.l Va ra] (.l vR o9)) hl) (by with_unfolding_all rfl)) (pI l i);rw[<-qN];exact Ev.slice (a _ _) (nG.num (c _ _)) nG.nil (n5 (by simp only[cJ,VR];exact(A1 [.l Va ra] (.e Va kF)) hl))
 refine cv.to (cv.and_cons (sl la x _ _ _ _ ha a) λh1=>cv.and_cons (sl lb y _ _ _ _ hb b) λh2=>cv.and_cons (b:=decide (la[i]? =lb[i]?)) ?_ λ_=>cv.and_nil) ?_
 .simp only[Ue]at h1 h2;have e1:la[i]? =some la[i]:=SK h1;have e2:lb[i]? =some lb[i]:=SK h2;refine cv.to (cv.cmp (Ev.mK (c:=la[i]) (a _ _) (c _ _) (At.nat (by trivial) (by simp;exact TZ ‹_› (by decide))) (λo i=>⟨_,by with_unfolding_all rfl⟩)) (Ev.mK (c:=lb[i]) (b _ _) (c _ _) (At.nat (by trivial) (by simp;exact TZ ‹_› (by decide))) (λo i=>⟨_,by with_unfolding_all rfl⟩)) nM (by with_unfolding_all rfl)) (Av e1 e2)
 rw[Bool.and_true,<-Bool.decide_and,<-Bool.decide_and];exact UD.mpr (ve la lb i hi).symm
def Hm{k:Bool}{j m:Nat}(c:∀k p,Ev G F n ρ k (.Name z p) (.int (-(j:Int)))):nG G F n ρ (some (.BoolOp .Or [.Name z p,.Constant .none m q] r)) (Cz j):=by
 delta Cz;by_cases h:j=0
 .rw[if_pos h];refine nG.part .nil (Ev.Ob (bL:=.int (-(j:Int))) (c:=(-(j:Int)) !=0) (c _ _) zh (λ_=>Ev.JH Ev.Ej) λq=>?_);subst h;exact Bool.noConfusion ‹_›
 rw[if_neg h];refine nG.part (.num _) (Ev.Ob (bL:=.int (-(j:Int))) (c:=(-(j:Int)) !=0) (c _ _) zh (λq=>?_) λ_=>rfl);simp at q;lia
def uK{k:Bool}{j m:Nat}(a:∀k p,Ev G F n ρ k (.Name x p) (.str (T l)))(c:∀k p,Ev G F n ρ k (.Name z p) (.int (-(j:Int))))(hl:l.length<2^20):
 Ev G F n ρ k (.Subscript (.Name x p1) (.Slice none (some (.BoolOp .Or [.Name z p,.Constant .none m q] r)) none p3) p4) (.str (T (l.take (l.length - j)))):=by
 rw[<-yh];exact Ev.slice (a _ _) nG.nil (Hm (k:=true) c) (n5 (by simp only[cJ,VR];exact(A1 [.l Va ra] (.e Va kF)) hl))
def J0{x y z:Str}{p1 p2 p3 p4 p5 p6 p7 p8 q1 q2 q3 q4 q5 q6 q7 r1 r2 r3 r4 r5 r6 r7 r8 pos:Pos}{m1 m2 m3 m4 j:Nat}(a:∀k p,Ev G F n ρ k (.Name x p) (.str (T la)))(b:∀k p,Ev G F n ρ k (.Name y p) (.str (T lb)))(c:∀k p,Ev G F n ρ k (.Name z p) (.int (-(j:Int))))(ha:la.length<2^20)(hb:lb.length<2^20)(hj:j<=fH la.reverse lb.reverse):
 cv G F n ρ (.BoolOp .And [.Subscript (.Name x p1) (.Slice none (some (.BoolOp .Or [.Name z p2,.Constant .none m1 p3] p4)) none p5) p6,.Subscript (.Name y p7) (.Slice none (some (.BoolOp .Or [.Name z p8,.Constant .none m2 q1] q2)) none q3) q4,
  .Compare (.Subscript (.Name x q5) (.BinOp (.Name z q6) .Sub (.Constant (.int 1) m3 q7) r1) r2) [.Eq] [.Subscript (.Name y r3) (.BinOp (.Name z r4) .Sub (.Constant (.int 1) m4 r5) r6) r7] r8] pos) (decide (j<fH la.reverse lb.reverse)):=by
 have sl:∀(l:List Nat) (x:Str) (p1 p2 p3 p4 p5 p6:Pos) (m:Nat),l.length<2^20->(∀k p,Ev G F n ρ k (.Name x p) (.str (T l)))->cv G F n ρ (.Subscript (.Name x p1) (.Slice none (some (.BoolOp .Or [.Name z p2,.Constant .none m p3] p4)) none p5) p6) (decide (j<l.length)):=λl x p1 p2 p3 p4 p5 p6 m hl a=>cv.to (cv.Cw (uK (k:=true) a c hl) (by rw[cJ,UC];exact(A2 [.l Va ra] (.l (.i vR Va) o9)) hl) (by with_unfolding_all rfl)) (pF l j);refine cv.to (cv.and_cons (sl la x _ _ _ _ _ _ _ ha a) λh1=>cv.and_cons (sl lb y _ _ _ _ _ _ _ hb b) λh2=>cv.and_cons (b:=decide (la.reverse[j]? =lb.reverse[j]?)) ?_ λ_=>cv.and_nil) ?_
 .simp only[Ue]at h1 h2;have it:∀(l:List Nat) (hz:l.length<2^20) (h:j<l.length),l.reverse[j]? =some l[l.length - 1 - j]/\At l (-(j:Int) - 1) l[l.length - 1 - j]:=λl hz h=>by
   refine⟨by(refine V3 (getElem?_reverse h) ?_;exact(SK (Nat.sub_one_sub_lt_of_lt h))),?_⟩;refine⟨l.length - 1 - j,SK (Nat.sub_one_sub_lt_of_lt h),.inr ((A2 [.l Va Vb] (.Q (.s pP K1) (.s (.o (.s (.s Vb K1) Va)) ew))) h),?_,?_⟩
   all_goals lia
  refine cu (it la ha h1) λe1 f1=>?_;refine cu (it lb hb h2) λe2 f2=>?_;refine cv.to (cv.cmp (Ev.mK (c:=la[la.length - 1 - j]) (a _ _) (Ev.bin (c _ _) Ev.cw pV) f1 (λo i=>⟨_,by with_unfolding_all rfl⟩)) (Ev.mK (c:=lb[lb.length - 1 - j]) (b _ _) (Ev.bin (c _ _) Ev.cw pV) f2 (λo i=>⟨_,by with_unfolding_all rfl⟩)) nM (by with_unfolding_all rfl)) (Av e1 e2)
 rw[Bool.and_true,<-Bool.decide_and,<-Bool.decide_and];have:=ve la.reverse lb.reverse j hj;rw[length_reverse,length_reverse]at this;exact UD.mpr this.symm
end
structure LS where
 dist:Int
 res:Int
 mn:Int
 row:List Int
noncomputable def l4(a:List Nat)(bc:Nat)(st:LS)(i:Nat):LS:=
 let r:=min (min st.res (st.row.getD i 0)+2) (st.dist+gO (one bc) (one (a.getD i 0)))
 ⟨st.row.getD i 0,r,if r<st.mn then r else st.mn,st.row.set i r⟩
noncomputable def gY(a:List Nat)(bc:Nat)(st:LS)(m:Nat):LS:=(List.range m).foldl (l4 a bc) st
noncomputable def g7(a:List Nat)(bK:Int):List Nat->Nat->Int->List Int->Int
 |[],_,res,_=>res
 |bc::bs,j,_,row=>
  let st:=gY a bc ⟨(j:Int)*2,(j:Int)*2,9223372036854775807,row⟩ a.length
  if bK<st.mn then bK+1 else g7 a bK bs (j+1) st.res st.row
def oS(a:List Nat)(bK:Int)(bc:Nat)(bs:List Nat)(j:Nat)(res:Int)(row:List Int):g7 a bK (bc::bs) j res row=if bK<(gY a bc ⟨(j:Int)*2,(j:Int)*2,9223372036854775807,row⟩ a.length).mn then bK+1 else g7 a bK bs (j+1) (gY a bc ⟨(j:Int)*2,(j:Int)*2,9223372036854775807,row⟩ a.length).res (gY a bc ⟨(j:Int)*2,(j:Int)*2,9223372036854775807,row⟩ a.length).row:=rfl
noncomputable def dP(m:Nat):List Int:=(List.range m).map λ(i:Nat)=>2+(i:Int)*2
noncomputable def fv(la lb:List Nat)(bK:Int):Int:=
 if la=[]\/lb=[]then 2*((la.length:Int)+lb.length)
 else if 40<la.length\/40<lb.length then bK+1
 else
  let s:=if lb.length<la.length then lb else la;let t:=if lb.length<la.length then la else lb
  if bK<((t.length:Int) - s.length)*2 then bK+1 else g7 s bK t 0 0 (dP s.length)
noncomputable def g9(la lb:List Nat)(bK:Int):Int:=
 if la=lb then 0 else
  let a:=la.drop (fH la lb);let b:=lb.drop (fH la lb);let q:=fH a.reverse b.reverse
  fv (a.take (a.length - q)) (b.take (b.length - q)) bK
def tw(a:List Nat)(bc:Nat)(st:LS):∀m,(gY a bc st m).row.length=st.row.length:=by
 intro m;induction m with
 |zero=>rfl
 |succ m ih=>unfold gY at ih⊢;(refine Eq.substr U4 ?_;refine Eq.substr Ui ?_);simp[l4,ih]
def qF(a:List Nat)(bc:Nat)(st:LS)(m:Nat):gY a bc st (m+1)=l4 a bc (gY a bc st m) m:=by delta gY;(refine Eq.substr U4 ?_;refine V3 Ui ?_);rfl
noncomputable abbrev su:List Str:=[S "a",S "b",S "max_cost",S "pre",S "post",S "row",S "result",S "bindex",S "bchar",S "distance",S "minimum",S "index",S "substitute",S "insert_delete"]
def decLt(a b:Nat):decide ((a:Int)<(b:Int))=decide (a<b):=UD.mpr VN
def xY(m:Nat)(hm:m<2^20):cH 2 (2*((m:Int)+1)) 2=dP m:=by
 have e:Builtin.Range.rangeSize 2 (2*((m:Int)+1)) 2=m:=by delta Builtin.Range.rangeSize;rw[if_pos (by decide)];split<;>lia
 delta cH dP;rw[e];rfl
def iR(h1: -(2^60)<=i)(h2:i<2^60):Builtin.Range.rangeFitsLong i=true:=by delta Builtin.Range.rangeFitsLong;simp only[Uw,Ue,Ue];exact(I1 [.E (.g HV) Qa,.L Qa HV] LI) h1 h2
def xG(m:Nat)(hm:m<2^20):Builtin.Range.small 2 (2*((m:Int)+1)) 2=true:=by
 have e:Builtin.Range.rangeSize 2 (2*((m:Int)+1)) 2=m:=by delta Builtin.Range.rangeSize;rw[if_pos (by decide)];split<;>omega
 delta Builtin.Range.small;rw[e,iR (i:=2) (by decide) (by decide),iR (i:=2*((m:Int)+1)) (by exact neg_ofNat_le_ofNat (2^60) (2*(m+1))) (by exact(A1 [.l Va ra] (.L (.m 2 (.a bA K1)) HV)) hm),iR (i:=(m:Int)) (by exact neg_ofNat_le_natCast (2^60) m) (by exact(A1 [.l Va ra] (.L bA HV)) hm),if_pos (by decide),iR (by exact neg_ofNat_le_ofNat (2^60) (2*(m+1)+(2 - Nat.succ 0))) (by exact(A1 [.l Va ra] (.L (.a (.m 2 (.a bA K1)) (.s K2 K1)) HV)) hm)];simp
def wc(c:Nat):Builtin.Str.tooLong (Txt.lower (one c)).length=false:=fit_lower (by show 1<=_;exact VC _)
def xX(W:Wd G)(hv:su.Nodup)(la lb:List Nat)(bK pre post:Int)(ha:la.length<2^20)(hb:lb.length<2^20):
 Ex G ⟨envOfC lW.name lW.scope L l cd,su,aD⟩ (n+1) [.val (.str (T la)),.val (.str (T lb)),.val (.int bK),.val (.int pre),.val (.int post),.own lr (aa (dP la.length)),.val (.int 0),.no,.no,.no,.no,.no,.no,.no] (lW.body.drop 15) (λfl _=>fl=.ret (.int (g7 la bK lb 0 0 (dP la.length)))):=by
 have kK:=λ(a b:Nat)=>Hg W (n:=n) (one a) (one b) (wc a) (wc b);refine Ex.cons (bQ.xp (λj ρ=>∃(res:Int) (row:List Int) (s7 s8 s9 kB rU m6 kA:Slot),row.length=la.length/\g7 la bK (lb.drop j) j res row=g7 la bK lb 0 0 (dP la.length)/\
  ρ=[.val (.str (T la)),.val (.str (T lb)),.val (.int bK),.val (.int pre),.val (.int post),.own lr (aa row),.val (.int res),s7,s8,s9,kB,rU,m6,kA])
  (ef.range (out:=(cH 0 (lb.length:Int) 1).map .int) W.range rfl (ds:=[.int (lb.length:Int)]) ?_ pr_1 (small_one (TY _) (TY _) (TY _) ((A1 [.l Va ra] (.L bA Ck)) hb)) rfl) ⟨0,dP la.length,_,_,_,_,_,_,_,by simp[dP],rfl,rfl⟩ ?_ ?_)
 .rw[<-cJ lb];refine(b8.cons (a:=(Ev.i7 (x:=Str.ofString "len") (b:=Wd.len (by assumption)) (hx:=rfl) (a:=(b8.cons (Ev.nm rfl) (b:=b8.nil))) (pl:=(kh ?_)))) (b:=b8.nil));rw[cJ];exact TZ ‹_› (Tc rfl)
 .intro j d az hd bx;(refine dm bx λres row s7 s8 s9 kB fS=>?_;clear bx;refine fq fS λrU m6 kA xm yw kD=>?_;clear fS;subst kD);obtain⟨hj,rfl⟩:=mi hd;refine bH _ (As.name 7 (d6.loc rfl rfl hv)) ?_;refine(?_:Ex G _ _ [.val (.str (T la)),.val (.str (T lb)),.val (.int bK),.val (.int pre),.val (.int post),.own lr (aa row),.val (.int res),.val (.int j),s8,s9,kB,rU,m6,kA] _ _);refine Ex.cons (bQ.assign (d:=.str (one lb[j])) 8 (d6.loc rfl rfl hv) ?_ ?_)
  .refine Ev.mK (x:=T lb) (i:=(j:Int)) (Ev.nm rfl) (Ev.nm rfl) (At.nat (SK hj) (by simp;exact TZ ‹_› (Tc rfl))) (λo i=>⟨_,by with_unfolding_all rfl⟩)
  refine(?_:Ex G _ _ [.val (.str (T la)),.val (.str (T lb)),.val (.int bK),.val (.int pre),.val (.int post),.own lr (aa row),.val (.int res),.val (.int j),.val (.str (one lb[j])),s9,kB,rU,m6,kA] _ _);refine Ex.cons (bQ.DO (d:=.int ((j:Int)*2)) 9 6 (d6.loc rfl rfl hv) (d6.loc rfl rfl hv) ?_ ?_)
  .refine(Ev.bin (a:=(Ev.nm rfl)) (b:=(Ev.kb (x:=Str.ofString "_MOVE_COST") (h:=Wd.ej (by assumption)) (hx:=rfl) (hd:=by decide))) (p:=(pW ?_)));exact IntMulOk.of_right (Tc rfl)
  refine Ex.cons (bQ.assign (d:=.int 9223372036854775807) 10 (d6.loc rfl rfl hv) (by refine Ev.cw) ?_);refine(?_:Ex G _ _ [.val (.str (T la)),.val (.str (T lb)),.val (.int bK),.val (.int pre),.val (.int post),.own lr (aa row),.val (.int ((j:Int)*2)),.val (.int j),.val (.str (one lb[j])),.val (.int ((j:Int)*2)),.val (.int 9223372036854775807),rU,m6,kA] _ _);generalize e9:(⟨(j:Int)*2,(j:Int)*2,9223372036854775807,row⟩:LS)=DT;refine Ex.cons (bQ.xp (λi ρ=>∃(rU m6 kA:Slot),
   ρ=[.val (.str (T la)),.val (.str (T lb)),.val (.int bK),.val (.int pre),.val (.int post),.own lr (aa (gY la lb[j] DT i).row),.val (.int (gY la lb[j] DT i).res),.val (.int j),.val (.str (one lb[j])),.val (.int (gY la lb[j] DT i).dist),.val (.int (gY la lb[j] DT i).mn),rU,m6,kA])
   (ef.range (out:=(cH 0 (la.length:Int) 1).map .int) W.range rfl (ds:=[.int (la.length:Int)]) ?_ pr_1 (small_one (TY _) (TY _) (TY _) ((A1 [.l Va ra] (.L bA Ck)) ha)) rfl) ⟨rU,m6,kA,by refine Eq.substr (V7 e9) ?_;rfl⟩ ?_ ?_)
  .rw[<-cJ la];refine(b8.cons (a:=(Ev.i7 (x:=Str.ofString "len") (b:=Wd.len (by assumption)) (hx:=rfl) (a:=(b8.cons (Ev.nm rfl) (b:=b8.nil))) (pl:=(kh ?_)))) (b:=b8.nil));rw[cJ];exact TZ ‹_› (Tc rfl)
  .intro i d az hd bx;refine vU bx λrU m6 kA kD=>?_;clear bx;subst kD;obtain⟨hi,rfl⟩:=mi hd;refine bH _ (As.name 11 (d6.loc rfl rfl hv)) ?_;have BR:(gY la lb[j] DT i).row.length=la.length:=by rw[tw,<-e9];exact xm
   rw[qF];generalize gY la lb[j] DT i=q at BR⊢;obtain⟨qd,qr,qm,fU⟩:=q;have Jb:fU.length=la.length:=BR;refine(?_:Ex G _ _ [.val (.str (T la)),.val (.str (T lb)),.val (.int bK),.val (.int pre),.val (.int post),.own lr (aa fU),.val (.int qr),.val (.int j),.val (.str (one lb[j])),.val (.int qd),.val (.int qm),.val (.int i),m6,kA] _ _);refine Ex.cons (bQ.assign (d:=.int (qd+gO (one lb[j]) (one la[i]))) 12 (d6.loc rfl rfl hv) ?_ ?_)
   .have hit:∀p1 p2 p3,Ev G ⟨envOfC lW.name lW.scope L l cd,su,aD⟩ (n+1) [.val (.str (T la)),.val (.str (T lb)),.val (.int bK),.val (.int pre),.val (.int post),.own lr (aa fU),.val (.int qr),.val (.int j),.val (.str (one lb[j])),.val (.int qd),.val (.int qm),.val (.int i),m6,kA] false (.Subscript (.Name (Str.ofString "a") p1) (.Name (Str.ofString "index") p2) p3) (.str (one la[i])):=λp1 p2 p3=>Ev.mK (x:=T la) (i:=(i:Int)) (Ev.nm rfl) (Ev.nm rfl) (At.nat (SK hi) (by simp;exact TZ ‹_› (Tc rfl))) (λo i=>⟨_,by with_unfolding_all rfl⟩);exact Ev.bin (Ev.nm rfl) (Ev.vZ (kK lb[j] la[i]) rfl (b8.cons (Ev.nm rfl) (b8.cons (hit _ _ _) b8.nil (by with_unfolding_all rfl)) (by with_unfolding_all rfl)) (by with_unfolding_all rfl)) p_add
   have hq:At (fU.map D.int) (i:Int) (.int (fU.getD i 0)):=At.nat (by(refine V3 Uc ?_;refine Eq.substr Su ?_;refine Eq.substr (SK (T1 hi (V7 BR))) ?_);rfl) (by simp;exact(A2 [.l Va ra,.q Vb Va] (.l Vb o9)) ha Jb);refine(?_:Ex G _ _ [.val (.str (T la)),.val (.str (T lb)),.val (.int bK),.val (.int pre),.val (.int post),.own lr (aa fU),.val (.int qr),.val (.int j),.val (.str (one lb[j])),.val (.int qd),.val (.int qm),.val (.int i),.val (.int (qd+gO (one lb[j]) (one la[i]))),kA] _ _);refine Ex.cons (bQ.assign (d:=.int (fU.getD i 0)) 9 (d6.loc rfl rfl hv) (by refine(Ev.PZ (hm:=rfl) (b:=(Ev.nm rfl)) (hd:=by decide) (hn:=by decide) (eH:=by decide) (hs:=λo i=>⟨_,by with_unfolding_all rfl⟩) (h:= ?_));exact hq) ?_);refine(?_:Ex G _ _ [.val (.str (T la)),.val (.str (T lb)),.val (.int bK),.val (.int pre),.val (.int post),.own lr (aa fU),.val (.int qr),.val (.int j),.val (.str (one lb[j])),.val (.int (fU.getD i 0)),.val (.int qm),.val (.int i),.val (.int (qd+gO (one lb[j]) (one la[i]))),kA] _ _);refine Ex.cons (bQ.assign (d:=.int (min qr (fU.getD i 0)+2)) 13 (d6.loc rfl rfl hv) (by refine(Ev.bin (a:=(Ev.i7 (x:=Str.ofString "min") (b:=Wd.min (by assumption)) (hx:=rfl) (a:=(b8.cons (Ev.nm rfl) (b:=(b8.cons (Ev.nm rfl) (b:=b8.nil))))) (pl:=sN))) (b:=(Ev.kb (x:=Str.ofString "_MOVE_COST") (h:=Wd.ej (by assumption)) (hx:=rfl) (hd:=by decide))) (p:=p_add))) ?_);refine(?_:Ex G _ _ [.val (.str (T la)),.val (.str (T lb)),.val (.int bK),.val (.int pre),.val (.int post),.own lr (aa fU),.val (.int qr),.val (.int j),.val (.str (one lb[j])),.val (.int (fU.getD i 0)),.val (.int qm),.val (.int i),.val (.int (qd+gO (one lb[j]) (one la[i]))),.val (.int (min qr (fU.getD i 0)+2))] _ _);generalize hr:min (min qr (fU.getD i 0)+2) (qd+gO (one lb[j]) (one la[i]))=r;refine Ex.cons (bQ.assign (d:=.int r) 6 (d6.loc rfl rfl hv) (by rw[<-hr];refine(Ev.i7 (x:=Str.ofString "min") (b:=Wd.min (by assumption)) (hx:=rfl) (a:=(b8.cons (Ev.nm rfl) (b:=(b8.cons (Ev.nm rfl) (b:=b8.nil))))) (pl:=sN))) ?_);refine Ex.cons (bQ.MZ (j:=i) (d:=.int r) 5 rfl rfl (by refine(Ev.nm rfl)) (by refine(Ev.nm rfl)) (by simp;exact T1 hi (V7 BR)) (by simp;exact(A2 [.l Va ra,.q Vb Va] (.l Vb o9)) ha Jb) ?_);refine(?_:Ex G _ _ [.val (.str (T la)),.val (.str (T lb)),.val (.int bK),.val (.int pre),.val (.int post),.own lr (.list ((fU.map D.int).set i (.int r))),.val (.int r),.val (.int j),.val (.str (one lb[j])),.val (.int (fU.getD i 0)),.val (.int qm),.val (.int i),.val (.int (qd+gO (one lb[j]) (one la[i]))),.val (.int (min qr (fU.getD i 0)+2))] _ _);have Nz:l4 la lb[j] ⟨qd,qr,qm,fU⟩ i=⟨fU.getD i 0,r,if r<qm then r else qm,fU.set i r⟩:=by
    delta l4;have e:la.getD i 0=la[i]:=by rw[Su,SK hi];rfl
    dsimp only;(refine Eq.substr e ?_;refine Eq.substr hr ?_;rfl)
   refine Eq.substr Nz ?_;have I9:(fU.map D.int).set i (.int r)=(fU.set i r).map D.int:=map_set.symm;refine Ex.cons (bQ.ite (c:=decide (r<qm)) (by refine(cv.cmp (x:=(Ev.nm rfl)) (y:=(Ev.nm rfl)) (p:=CH))) (λh=>?_) λh=>Ex.nil ?_)
   .refine Ex.cons (bQ.assign (d:=.int r) 10 (d6.loc rfl rfl hv) (by refine(Ev.nm rfl)) (Ex.nil (Ex.nil ?_)));simp only[Ue]at h;refine Eu (.val (.int i)) (.val (.int (qd+gO (one lb[j]) (one la[i])))) (.val (.int (min qr (fU.getD i 0)+2))) ?_;refine Eq.substr (if_pos h) ?_;refine(?_:[_,_,_,_,_,_,_,_,_,_,_,_,_,_]=_);rw[I9];rfl
   simp only[SN]at h;refine Ex.nil ⟨.val (.int i),.val (.int (qd+gO (one lb[j]) (one la[i]))),.val (.int (min qr (fU.getD i 0)+2)),?_⟩;(refine Eq.substr (if_neg h) ?_;refine Eq.substr I9 ?_);rfl
  intro az bx;refine vU bx λrU m6 kA kD=>?_;clear bx;subst kD;rw[mh];have BR:(gY la lb[j] DT la.length).row.length=la.length:=by rw[tw,<-e9];exact xm
  have Kw:lb.drop j=lb[j]::lb.drop (j+1):=SG hj;rw[Kw,oS,e9]at yw;generalize gY la lb[j] DT la.length=q at BR yw⊢;refine Ex.cons (bQ.ite (c:=decide (bK<q.mn)) (by refine(cv.cmp (x:=(Ev.nm rfl)) (y:=(Ev.nm rfl)) (p:=yS))) (λh=>?_) λh=>Ex.nil ?_)
  .refine Ex.cons (bQ.ret (d:=.int (bK+1)) (by refine(Ev.bin (a:=(Ev.nm rfl)) (b:=Ev.cw) (p:=p_add))) ?_);simp only[Ue]at h;rw[if_pos h]at yw;refine(?_:Fl.ret _=Fl.ret _);rw[yw]
  simp only[SN]at h;rw[if_neg h]at yw;exact Ex.nil ⟨q.res,q.row,_,_,_,_,_,_,_,BR,yw,rfl⟩
 intro az bx;(refine dm bx λres row s7 s8 s9 kB fS=>?_;clear bx;refine fq fS λrU m6 kA xm yw kD=>?_;clear fS;subst kD);rw[mh]at yw;rw[drop_length]at yw;refine Ex.cons (bQ.ret (d:=.int res) (by refine(Ev.nm rfl)) ?_);refine(?_:Fl.ret _=Fl.ret _);rw[<-yw];rfl
def Ev.pv (W:Wd G) (h:uh F.vars ρ x=some (i,.val (.str (T l)))) (hk:F.env.kindOf (Str.ofString "len")=some .globalImplicit) (hl:l.length<2^20) (hd:(x==("__debug__":Str))=false) (hn:(x==("__classdict__":Str))=false):
 Ev G F n ρ k (.Call (.Name (Str.ofString "len") p) [.Name x p'] [] RT) (.int (l.length:Int)):=by
 rw[<-cJ l];exact Ev.i7 W.len hk (b8.cons (Ev.nm h hd hn) b8.nil (by with_unfolding_all rfl)) (kh (by rw[cJ];exact TZ ‹_› (by decide))) (by with_unfolding_all rfl) (by with_unfolding_all rfl)
def Bc(W:Wd G)(hv:su.Nodup)(la lb:List Nat)(bK pre post:Int)(ha:la.length<2^20)(hb:lb.length<2^20)(ss:List Stmt)
 (HG:lW.body.drop 9=ss):
 Ex G ⟨envOfC lW.name lW.scope L l cd,su,aD⟩ (n+1) [.val (.str (T la)),.val (.str (T lb)),.val (.int bK),.val (.int pre),.val (.int post),.no,.no,.no,.no,.no,.no,.no,.no,.no] ss (λfl _=>fl=.ret (.int (fv la lb bK))):=by
 subst HG;have hle:∀(l:List Nat),(((T l).length:Int) !=0)= !decide (l=[]):=λl=>by rw[cJ];induction l using List.casesOn<;>rfl<;>lia
 refine Ex.cons (bQ.ite (c:=decide (la=[]\/lb=[])) ?_ (λh=>?_) λh=>Ex.nil ?_)
 .refine cv.to (cv.or_cons (cv.not (cv.Cw (x:=T la) (Ev.nm rfl) (by rw[cJ];exact TZ ‹_› (by decide)) (by with_unfolding_all rfl))) λ_=>cv.or_cons (cv.not (cv.Cw (x:=T lb) (Ev.nm rfl) (by rw[cJ];exact TZ ‹_› (by decide)) (by with_unfolding_all rfl))) λ_=>cv.or_nil) ?_;rw[hle,hle];simp
 .refine Ex.cons (bQ.ret (d:=.int (2*((la.length:Int)+lb.length))) ?_ ?_)
  .have e1:=cJ la;have e2:=cJ lb;rw[<-e1,<-e2];refine(Ev.bin (a:=(Ev.kb (x:=Str.ofString "_MOVE_COST") (h:=Wd.ej (by assumption)) (hx:=rfl) (hd:=by decide))) (b:=(Ev.bin (a:=(Ev.i7 (x:=Str.ofString "len") (b:=Wd.len (by assumption)) (hx:=rfl) (a:=(b8.cons (Ev.nm rfl) (b:=b8.nil))) (pl:=(kh ?_)))) (b:=(Ev.i7 (x:=Str.ofString "len") (b:=Wd.len (by assumption)) (hx:=rfl) (a:=(b8.cons (Ev.nm rfl) (b:=b8.nil))) (pl:=(kh ?_)))) (p:=p_add))) (p:=(pW (IntMulOk.of_left (by decide)))))
   all_goals exact TZ ‹_› (Tc rfl)
  simp only[Ue]at h;refine(?_:Fl.ret _=Fl.ret _);delta fv;rw[if_pos h]
 have Je:¬(la=[]\/lb=[]):=by simpa using h
 refine Ex.cons (bQ.ite (c:=decide (40<la.length\/40<lb.length)) ?_ (λh=>?_) λh=>Ex.nil ?_)
 .refine cv.to (cv.or_cons (b:=decide (40<la.length)) ?_ λ_=>cv.or_cons (b:=decide (40<lb.length)) ?_ λ_=>cv.or_nil) (by simp)
  .refine cv.to (cv.cmp (y:=Ev.kb W.ni rfl (by rfl)) (x:=Ev.pv W (l:=la) rfl rfl ha (by rfl) (by rfl)) yS (by with_unfolding_all rfl)) (UD.mpr ((A1 [] (.b (.L (.c 40) bA) (.l (.c 40) Va)))))
  refine cv.to (cv.cmp (y:=Ev.kb W.ni rfl (by rfl)) (x:=Ev.pv W (l:=lb) rfl rfl hb (by rfl) (by rfl)) yS (by with_unfolding_all rfl)) (UD.mpr ((A1 [] (.b (.L (.c 40) bA) (.l (.c 40) Va)))))
 .refine Ex.cons (bQ.ret (d:=.int (bK+1)) (by refine(Ev.bin (a:=(Ev.nm rfl)) (b:=Ev.cw) (p:=p_add))) ?_);simp only[Ue]at h;refine(?_:Fl.ret _=Fl.ret _);delta fv;rw[if_neg Je,if_pos h]
 have Rj:¬(40<la.length\/40<lb.length):=by simpa using h
 have rest:∀(s t:List Nat),s.length<2^20->t.length<2^20->Ex G ⟨envOfC lW.name lW.scope L l cd,su,aD⟩ (n+1) [.val (.str (T s)),.val (.str (T t)),.val (.int bK),.val (.int pre),.val (.int post),.no,.no,.no,.no,.no,.no,.no,.no,.no] (lW.body.drop 12) (λfl _=>fl=.ret (.int (if bK<((t.length:Int) - s.length)*2 then bK+1 else g7 s bK t 0 0 (dP s.length)))):=λs t hs Ou=>by
  refine Ex.cons (bQ.ite (c:=decide (bK<((t.length:Int) - s.length)*2)) ?_ (λh=>?_) λh=>Ex.nil ?_)
  .refine cv.cmp (x:=Ev.bin (Ev.bin (Ev.pv W (l:=t) rfl rfl Ou (by rfl) (by rfl)) (Ev.pv W (l:=s) rfl rfl hs (by rfl) (by rfl)) pV) (Ev.kb W.ej rfl (by rfl)) (pW (IntMulOk.of_right (by decide)))) (y:=Ev.nm rfl) yS (by with_unfolding_all rfl)
  .refine Ex.cons (bQ.ret (d:=.int (bK+1)) (by refine(Ev.bin (a:=(Ev.nm rfl)) (b:=Ev.cw) (p:=p_add))) ?_);simp only[Ue]at h;refine(?_:Fl.ret _=Fl.ret _);rw[if_pos h]
  simp only[SN]at h;rw[if_neg h];refine Ex.cons (bQ.fw 5 (d6.loc rfl rfl hv) (mB.qA (out:=(dP s.length).map .int) W.list W.range rfl rfl (ds:=[.int 2,.int (2*((s.length:Int)+1)),.int 2]) ?_ (pr_3 (by decide) (by decide)) (xG _ hs) ?_ (by rw[xY _ hs]) (by with_unfolding_all rfl) (by with_unfolding_all rfl) (by with_unfolding_all rfl) (by with_unfolding_all rfl)) (λlr=>?_) (hi:=by exact Tc rfl))
  .exact b8.cons (Ev.kb W.ej rfl (by rfl)) (b8.cons (Ev.bin (Ev.kb W.ej rfl (by rfl)) (Ev.bin (Ev.pv W (l:=s) rfl rfl hs (by rfl) (by rfl)) Ev.cw p_add) (pW (IntMulOk.of_left (by decide)))) (b8.cons (Ev.kb W.ej rfl (by rfl)) b8.nil (by with_unfolding_all rfl)) (by with_unfolding_all rfl)) (by with_unfolding_all rfl)
  .have:Builtin.Range.rangeSize 2 (2*((s.length:Int)+1)) 2=s.length:=by delta Builtin.Range.rangeSize;rw[if_pos (by decide)];split<;>lia
   rw[this];exact(A2 [.l Va ra,.i (.E K0 bA) (.Q ew bA)] (.e Vb kF)) hs TJ
  refine Ex.cons (bQ.assign (d:=.int 0) 6 (d6.loc rfl rfl hv) (by refine Ev.cw) ?_);exact xX W hv s t bK pre post hs Ou
 have pB:fv la lb bK=(let s:=if lb.length<la.length then lb else la
  let t:=if lb.length<la.length then la else lb
  if bK<((t.length:Int) - s.length)*2 then bK+1 else g7 s bK t 0 0 (dP s.length)):=by
  delta fv;(refine V3 (if_neg Je) ?_;exact(if_neg Rj))
 rw[pB];refine Ex.cons (bQ.ite (c:=decide (lb.length<la.length)) ?_ (λh=>?_) λh=>Ex.nil ?_)
 .refine cv.to (cv.cmp (x:=Ev.pv W (l:=lb) rfl rfl hb (by rfl) (by rfl)) (y:=Ev.pv W (l:=la) rfl rfl ha (by rfl) (by rfl)) CH (by with_unfolding_all rfl)) (decLt _ _)
 .simp only[Ue]at h;simp only[if_pos h];refine Ex.cons (bQ.ny (bL:=.str (T lb)) (cN:=.str (T la)) 0 1 (d6.loc rfl rfl hv) (d6.loc rfl rfl hv) (by refine(b8.cons (Ev.nm rfl) (b:=(b8.cons (Ev.nm rfl) (b:=b8.nil))))) (Ex.nil ?_) (by with_unfolding_all rfl) (by with_unfolding_all rfl));exact rest lb la hb ha
 simp only[SN]at h;simp only[if_neg h];exact rest la lb ha hb
def Am(W:Wd G)(la lb:List Nat)(bK:Int)(ha:la.length<2^20)(hb:lb.length<2^20):Fn G (Str.ofString "_levenshtein_distance") (n+2) [.str (T la),.str (T lb),.int bK] (.int (g9 la lb bK)):=by
 refine Fn.intro (name:=lW.name) (W.at_ lW) su (λL l cd aD=>?_) (λu v w pm cd doc=>rfl) (by decide) (Tc rfl) (by decide);have hv:su.Nodup:=by decide
 refine Ex.cons (bQ.ite (c:=decide (la=lb)) ?_ (λh=>?_) λh=>Ex.nil ?_)
 .refine cv.to (cv.cmp (x:=Ev.nm rfl) (y:=Ev.nm rfl) (nM (a:=T la) (b:=T lb)) (by with_unfolding_all rfl)) (UD.mpr ⟨qc,λe=>by rw[e]⟩)
 .refine Ex.cons (bQ.ret (d:=.int 0) (by refine Ev.cw) ?_);simp only[Ue]at h;refine(?_:Fl.ret _=Fl.ret _);unfold g9;rw[if_pos h]
 simp only[SN]at h;have pB:g9 la lb bK=fv ((la.drop (fH la lb)).take ((la.drop (fH la lb)).length - fH (la.drop (fH la lb)).reverse (lb.drop (fH la lb)).reverse)) ((lb.drop (fH la lb)).take ((lb.drop (fH la lb)).length - fH (la.drop (fH la lb)).reverse (lb.drop (fH la lb)).reverse)) bK:=by unfold g9;rw[if_neg h]
 rw[pB];refine Ex.cons (bQ.assign (d:=.int 0) 3 (d6.loc rfl rfl hv) (by refine Ev.cw) ?_);refine Ex.cons (bQ.zQ (λm ρ=>∃i:Nat,i<=fH la lb/\m=fH la lb - i/\ρ=[.val (.str (T la)),.val (.str (T lb)),.val (.int bK),.val (.int (i:Int)),.no,.no,.no,.no,.no,.no,.no,.no,.no,.no]) (fH la lb) ⟨0,VO _,rfl,rfl⟩ ?_);intro m ρ bx;obtain⟨i,hi,rfl,rfl⟩:=bx;refine dG (decide (i<fH la lb)) (M7 (la:=la) (lb:=lb) (λk p=>Ev.nm rfl) (λk p=>Ev.nm rfl) (λk p=>Ev.nm rfl) ha hb hi) (λhc=>?_) (λhc=>?_)
 .simp only[Ue]at hc;refine Ex.cons (bQ.aug (cN:=.int 1) 3 (d6.loc rfl rfl hv) rfl (by refine Ev.cw) ro (Ex.nil ⟨fH la lb - (i+1),by exact TA (fH la lb) i hc,i+1,by assumption,rfl,?_⟩));refine(?_:[_,_,_,_,_,_,_,_,_,_,_,_,_,_]=_);simp
 simp only[SN]at hc;have QK:i=fH la lb:=by exact(A2 [.e Va Vb,.n nE] se) hi hc
 subst QK;generalize fH la lb=p;have BW:(la.drop p).length<2^20:=by rw[UO];exact sub_lt_of_lt ha
 have Fo:(lb.drop p).length<2^20:=by rw[UO];exact sub_lt_of_lt hb
 have sl:∀(l:List Nat) (x:Str) (p1 p2 p3 p4:Pos) (F:Fx) (ρ:RE),l.length<2^20->(∀k p,Ev G F (n+1) ρ k (.Name x p) (.str (T l)))->(∀k q,Ev G F (n+1) ρ k (.Name (Str.ofString "pre") q) (.int (p:Int)))->Ev G F (n+1) ρ false (.Subscript (.Name x p1) (.Slice (some (.Name (Str.ofString "pre") p2)) none none p3) p4) (.str (T (l.drop p))):=λl x p1 p2 p3 p4 F ρ hl h1 h2=>by rw[<-qN];exact Ev.slice (h1 _ _) (nG.num (h2 _ _)) nG.nil (n5 (by simp only[cJ,VR];exact(A1 [.l Va ra] (.e Va kF)) hl))
 refine Ex.cons (bQ.assign (d:=.str (T (la.drop p))) 0 (d6.loc rfl rfl hv) (sl la _ _ _ _ _ _ _ ha (λk p=>Ev.nm rfl) (λk p=>Ev.nm rfl)) ?_);refine Ex.cons (bQ.assign (d:=.str (T (lb.drop p))) 1 (d6.loc rfl rfl hv) (sl lb _ _ _ _ _ _ _ hb (λk p=>Ev.nm rfl) (λk p=>Ev.nm rfl)) ?_);generalize la.drop p=xa at BW⊢;generalize lb.drop p=xb at Fo⊢;refine Ex.cons (bQ.assign (d:=.int 0) 4 (d6.loc rfl rfl hv) (by refine Ev.cw) ?_);refine Ex.cons (bQ.zQ (λm ρ=>∃j:Nat,j<=fH xa.reverse xb.reverse/\m=fH xa.reverse xb.reverse - j/\ρ=[.val (.str (T xa)),.val (.str (T xb)),.val (.int bK),.val (.int (p:Int)),.val (.int (-(j:Int))),.no,.no,.no,.no,.no,.no,.no,.no,.no]) (fH xa.reverse xb.reverse) ⟨0,VO _,rfl,rfl⟩ ?_);intro m ρ bx;obtain⟨j,hj,rfl,rfl⟩:=bx;refine dG (decide (j<fH xa.reverse xb.reverse)) (J0 (la:=xa) (lb:=xb) (λk p=>Ev.nm rfl) (λk p=>Ev.nm rfl) (λk p=>Ev.nm rfl) BW Fo hj) (λhc=>?_) (λhc=>?_)
 .simp only[Ue]at hc;refine Ex.cons (bQ.aug (op:=.Sub) (cN:=.int 1) (d:=.int (-(j:Int) - 1)) 4 (d6.loc rfl rfl hv) rfl (by refine Ev.cw) ?_ (Ex.nil ⟨fH xa.reverse xb.reverse - (j+1),by exact TA (fH xa.reverse xb.reverse) j hc,j+1,by assumption,rfl,?_⟩))
  .exact P2.int λ_ _ _ _ _=>isub_int ⟨.toks,_,rfl⟩
  refine(?_:[_,_,_,_,_,_,_,_,_,_,_,_,_,_]=_);have: -(j:Int) - 1= -((j+1:Nat):Int):=by exact(A1 [] (.Q (.s pP K1) (.g (.o fJ))))
  rw[this]
 simp only[SN]at hc;have QI:j=fH xa.reverse xb.reverse:=by exact(A2 [.e Va Vb,.n nE] se) hj hc
 subst QI;generalize fH xa.reverse xb.reverse=q;refine Ex.cons (bQ.assign (d:=.str (T (xa.take (xa.length - q)))) 0 (d6.loc rfl rfl hv) (uK (λk p=>Ev.nm rfl) (λk p=>Ev.nm rfl) BW) ?_);refine Ex.cons (bQ.assign (d:=.str (T (xb.take (xb.length - q)))) 1 (d6.loc rfl rfl hv) (uK (λk p=>Ev.nm rfl) (λk p=>Ev.nm rfl) Fo) ?_);exact Bc W hv _ _ bK _ _ (by rw[UC];exact(A2 [.l Va ra] (.l (.i vR Va) ra)) BW) (by rw[UC];exact(A2 [.l Va ra] (.l (.i vR Va) ra)) Fo) _ rfl
noncomputable def dF(x y:List Nat):Int:=
 let size:=2*((y.length:Int) - x.length)
 min 1 ((if x.length%2=0 then g9 x y size else g9 y x size) - size)
def wN(W:Wd G)(x y:List Nat)(hx:x.length<2^20)(hy:y.length<2^20):Fn G (Str.ofString "_law_more") (n+3) [.str (T x),.str (T y)] (.int (dF x y)):=by
 refine Fn.intro (name:=EO.name) (W.at_ EO) [S "one",S "text",S "size"] (λL l cd aD=>?_) (λu v pm cd doc=>rfl) (by decide) (Tc rfl) (by decide);have hv:[S "one",S "text",S "size"].Nodup:=by decide
 refine Ex.cons (bQ.assign (d:=.int (2*((y.length:Int) - x.length))) 2 (d6.loc rfl rfl hv) ?_ ?_)
 .exact Ev.bin Ev.cw (Ev.bin (Ev.pv W (l:=y) rfl rfl hy (by rfl) (by rfl)) (Ev.pv W (l:=x) rfl rfl hx (by rfl) (by rfl)) pV) (pW (IntMulOk.of_left (Tc rfl)))
 have h1:=Am W (n:=n) x y (2*((y.length:Int) - x.length)) hx hy;have h2:=Am W (n:=n) y x (2*((y.length:Int) - x.length)) hy hx;refine Ex.cons (bQ.ret (d:=.int (dF x y)) ?_ rfl);have hd:D.int (dF x y)=D.int (min 1 ((if x.length%2=0 then g9 x y (2*((y.length:Int) - x.length))else g9 y x (2*((y.length:Int) - x.length))) - 2*((y.length:Int) - x.length))):=rfl;rw[hd];generalize hs:2*((y.length:Int) - x.length)=sz at h1 h2⊢;refine(?_:Ev G _ _ [.val (.str (T x)),.val (.str (T y)),.val (.int sz)] _ _ _);refine Ev.i7 W.min rfl (b8.cons Ev.cw (b8.cons (Ev.bin (bL:=.int (if x.length%2=0 then g9 x y sz else g9 y x sz)) ?_ (Ev.nm rfl) pV) b8.nil (by with_unfolding_all rfl)) (by with_unfolding_all rfl)) sN (by with_unfolding_all rfl) (by with_unfolding_all rfl);rw[intIte];refine Ev.CO ?_ (λ_=>Ev.vZ h1 rfl (by refine(b8.cons (Ev.nm rfl) (b:=(b8.cons (Ev.nm rfl) (b:=(b8.cons (Ev.nm rfl) (b:=b8.nil))))))) (by with_unfolding_all rfl)) λ_=>Ev.vZ h2 rfl (by refine(b8.cons (Ev.nm rfl) (b:=(b8.cons (Ev.nm rfl) (b:=(b8.cons (Ev.nm rfl) (b:=b8.nil))))))) (by with_unfolding_all rfl);refine cv.to (cv.cmp (x:=Ev.bin (Ev.pv W (l:=x) rfl rfl hx (by rfl) (by rfl)) Ev.cw (mF (by decide))) (y:=Ev.cw) CI (by with_unfolding_all rfl)) (UD.mpr ?_);rw[Sz _ (by decide)];lia
section
variable{G:Gd}{F:Fx}{n:Nat}{ρ:RE}
def Lp.each{α:Type}(xs:List α)(enc f:α->D)(p:α->Bool)(K:RE->Prop)(hx:F.vars=accN::vars)(pre:List D)(hz:pre.length+xs.length<=sizeLine)(h0:K gN)
 (step:∀(acc:D) (x:α) (my:RE),x∈xs->K my->∃iW,K iW/\As G F n (.own l acc::my) target (enc x) (.own l acc::iW)/\lX G F n (.own l acc::iW) ifs (p x)/\(p x=true->Ev G F n (.own l acc::iW) false elt (f x))):
 Lp G F n (.own l (.list pre)::gN) target ifs (do let _<-call (.builtin "list.append") [.ref l,<-eval elt F.env]) (xs.map enc) (λaz=>∃gi,K gi/\az=.own l (.list (pre++(xs.filter p).map f))::gi) where
 ex:=⟨λi az=>∃gi,K gi/\az=.own l (.list (pre++((xs.take i).filter p).map f))::gi,⟨gN,h0,by simp⟩,λi d az hd m8=>ao m8 λmy hk ur=>by
  subst ur;rw[Uc]at hd;obtain⟨x,HD,rfl⟩:=SS.mp hd;refine aO (SF.mp HD) λhi RX=>?_;refine n8 (step (.list (pre++((xs.take i).filter p).map f)) x my (To HD) hk) λiW k3 a t e=>?_;have ht:xs.take (i+1)=xs.take i++[x]:=by rw[Ug,HD];rfl
  refine f6 _ (p x) a t (λhp=>(Em.emit (x:=accN) (i:=0) (by rw[hx];rfl) rfl (e hp) ?_).mono λaz ur=>?_) (λhp=>⟨iW,k3,?_⟩)
  .have h1:((xs.take i).filter p).length<=(xs.take i).length:=Td ..;have h2:(xs.take i).length<=i:=by rw[UC];exact Nat.min_le_left _ _
   simp only[TU,US];lia
  .refine bH iW k3 ?_;(refine V3 ur ?_;refine Eq.substr ht ?_;rw[T4];refine Eq.substr UT ?_;rw[<-Uh]);simp[hp]
  .simp only[ht,T4,UT];simp[hp],λaz w5=>ao w5 λgi hk ur=>⟨gi,hk,by rw[ur,US,UA]⟩⟩
def Lp.mono(x:Lp G F n ρ target ifs inner ds Φ)(h:∀az,Φ az->Ψ az):Lp G F n ρ target ifs inner ds Ψ:=
 let⟨I,a,b,c⟩:=x.ex;⟨I,a,b,λaz i=>h _ (c az i)⟩
def d6.EV(h:nA vars x=some i)(hk:(envOfC name scope L l cd).kindOf x=some .cell)(hl:scope.names.lookup x=some .cell)(hn:vars.Nodup):d6 ⟨envOfC name scope L l cd,vars,aD⟩ i x:=by
 have h1:((cellsFrom (L+1) scope.names []).lookup x).isSome=true:=Vo _ _ _ (.inl hl);refine aO (SM.mp h1) λc hc=>?_;refine d6.cell (c:=c) h hk hc ?_ hn;rcases gW _ _ _ (mem_of_lookup hc)with q|q
 .exact pL q
 exact q
def bw.each{α:Type}(vars:List Str)(xs:List α)(enc f:α->D)(p:α->Bool)(K:RE->Prop)
 (iI:ef G F n ρ false target bM (xs.map enc))(vs:Vs F (bz F scope cl vars) ρ vars gN)(hz:xs.length<=sizeLine)(h0:K gN)
 (step:∀(C l:Addr) (acc:D) (x:α) (my:RE),x∈xs->K my->∃iW,K iW/\As G (bz F scope cl vars C) n (.own l acc::my) target (enc x) (.own l acc::iW)/\lX G (bz F scope cl vars C) n (.own l acc::iW) ifs (p x)/\(p x=true->Ev G (bz F scope cl vars C) n (.own l acc::iW) false elt (f x)))
 (hs:autoParam (∀x,foldedSetIterable bM F.env x=pure x) tIs)
 (jc:autoParam (gZ F.env scope.names []=some cl) tR)(jW:autoParam ((scope.names.map (·.1)).Nodup) tD)(hk:autoParam (scope.kind=.function) tR)(iH:autoParam (∀x∈scope.names,x.2=.local->scope.names.lookup x.1=some .local) tD):
 bw G F n ρ (.ListComp elt [⟨target,bM,ifs,0⟩] scope pos) (newList []) target bM [] scope (.list ((xs.filter p).map f)):=
 bw.list vars iI vs (λC l=>qg rfl rfl) (λC l=>(Lp.each xs enc f p K rfl [] (by simpa using hz) h0 λacc x my hx hk=>step C l acc x my hx hk).mono λaz yH=>ao yH λgi _ h=>⟨gi,by simpa using h⟩) hs jc jW hk iH
def bw.all{α:Type}(vars:List Str)(xs:List α)(enc f:α->D)(K:RE->Prop)
 (iI:ef G F n ρ false target bM (xs.map enc))(vs:Vs F (bz F scope cl vars) ρ vars gN)(hz:xs.length<=sizeLine)(h0:K gN)
 (step:∀(C l:Addr) (acc:D) (x:α) (my:RE),x∈xs->K my->∃iW,K iW/\As G (bz F scope cl vars C) n (.own l acc::my) target (enc x) (.own l acc::iW)/\Ev G (bz F scope cl vars C) n (.own l acc::iW) false elt (f x))
 (jc:gZ F.env scope.names []=some cl)(hs:autoParam (∀x,foldedSetIterable bM F.env x=pure x) tIs)
 (jW:autoParam ((scope.names.map (·.1)).Nodup) tD)(hk:autoParam (scope.kind=.function) tR)(iH:autoParam (∀x∈scope.names,x.2=.local->scope.names.lookup x.1=some .local) tD):
 bw G F n ρ (.ListComp elt [⟨target,bM,[],0⟩] scope pos) (newList []) target bM [] scope (.list (xs.map f)):=by
 have h:=bw.each (pos:=pos) vars xs enc f (λ_=>true) K iI vs hz h0 (λC l acc x my hx hk=>by refine bq (step C l acc x my hx hk) λiW h1 h2 h3=>?_;exact⟨iW,h1,h2,lX.nil,λ_=>h3⟩) hs jc jW hk iH;have e:xs.filter (λ_=>true)=xs:=by simp
 rwa [e]at h
end
noncomputable def kT:List Nat:=[40,41,91,93,58,44,59,43,45,42,47,124,38,60,62,61,46,37,123,125,126,94,64,33,97,65]
noncomputable def iF:List Int:=[7,8,9,10,11,12,13,14,15,16,17,18,19,20,21,22,23,24,25,26,31,32,49,54,255, -256]
noncomputable def cR(dr:Nat):List Nat:=if dr/552%3=0 then[dr%24,(dr%24+1+dr/24%23)%24]else if dr/552%3=1 then[dr%24,24]else[24,25]
noncomputable def fc(k:Nat):Nat:=kT.getD k 0
noncomputable def numAt(k:Nat):Int:=iF.getD k 0
def te(dr:Nat):∀k∈cR dr,k<26:=by
 intro k hk;unfold cR at hk;split at hk
 .simp at hk;exact(A5 [.o se (.q Va Vc),.q (.a (.m 24 Vd) Vb) Ve,.l Ve (.m 24 uo),.l Vc (.c 24)] (.l Va (.c 26))) hk (div_add_mod _ _) (lt_mul_div_succ _ (by decide)) (VZ _ (by decide))
 split at hk<;>simp at hk<;>lia
def Bs(W:Wd G)(dr:Nat):Fn G (Str.ofString "_law_signs") (n+1) [.int dr] (.tup [.list ((cR dr).map λk=>.str (one (fc k))),.list ((cR dr).map λk=>.int (numAt k))]):=by
 refine Fn.intro (name:=l8.name) (W.at_ l8) [S "draw",S "menu",S "known",S "one",S "spots"] (λL l cd aD=>?_) (λv pm cd doc=>rfl) (by decide) (VC _) (by decide);have hv:[S "draw",S "menu",S "known",S "one",S "spots"].Nodup:=by decide
 have cM:∀X,d6 ⟨envOfC l8.name l8.scope L l cd,[S "draw",S "menu",S "known",S "one",S "spots"],X⟩ 1 (S "menu"):=λX=>d6.EV rfl rfl rfl hv;have cK:∀X,d6 ⟨envOfC l8.name l8.scope L l cd,[S "draw",S "menu",S "known",S "one",S "spots"],X⟩ 2 (S "known"):=λX=>d6.EV rfl rfl rfl hv;have hr:=λF ρ (p p' pos pos' p1 p2:Pos) (h1:F.env.kindOf (Str.ofString "list")=some .globalImplicit) (h2:F.env.kindOf (Str.ofString "range")=some .globalImplicit)=>mB.qA (F:=F) (n:=n) (ρ:=ρ) (p:=p) (p':=p') (pos:=pos) (pos':=pos') (e:=.Constant (.int 7) 0 p1) (es:=[.Constant (.int 27) 0 p2]) (out:=(range' 7 20).map λ(i:Nat)=>.int i) W.list W.range h1 h2 (ds:=[.int 7,.int 27]) (by refine(b8.cons (a:=Ev.cw) (b:=(b8.cons (a:=Ev.cw) (b:=b8.nil))))) pr_2 (by rfl) (Tc rfl) (by rfl);refine Ex.cons (bQ.jM (d:=.tup [.str (T kT),aa iF]) (az:=[.val (.int dr),.val (.str (T kT)),.val (aa iF),.no,.no]) (Ev.tup ?_) (As.tup (uy.cons (As.name 1 (cM _)) (uy.cons (As.name 2 (cK _)) uy.nil))) ?_ (hs:= ?hs) (hw:= ?hw))
 case hs=>with_unfolding_all rfl
 case hw=>with_unfolding_all rfl
 .refine b8.cons Ev.IL (b8.cons ?_ b8.nil (by with_unfolding_all rfl)) (by with_unfolding_all rfl);have hk:aa iF=.list (((range' 7 20).map λ(i:Nat)=>D.int i)++[.int 31,.int 32,.int 49,.int 54,.int 255,.int (-256)]):=rfl;rw[hk];refine Ev.bin (hr _ _ _ _ _ _ _ _ rfl rfl).ev (cN:=.list [.int 31,.int 32,.int 49,.int 54,.int 255,.int (-256)]) ?_ (uN (Tc rfl));refine(Ev.list (a:=(b8.cons (a:=Ev.cw) (b:=(b8.cons (a:=Ev.cw) (b:=(b8.cons (a:=Ev.cw) (b:=(b8.cons (a:=Ev.cw) (b:=(b8.cons (a:=Ev.cw) (b:=(b8.cons (a:=(Ev.un (a:=Ev.cw) (p:=Eh))) (b:=b8.nil))))))))))))) (hsz:=(Tc rfl)))
 have e1:((dr%24:Nat):Int)=(dr:Int).fmod 24:=by rw[Sz _ (by exact TY _)];rfl
 refine Ex.cons (bQ.assign (d:=.int ((dr%24:Nat):Int)) 3 (d6.loc rfl rfl hv) ?_ ?_)
 .rw[e1];refine(Ev.bin (a:=(Ev.nm rfl)) (b:=Ev.cw) (p:=(mF (by decide))))
 refine Ex.cons (bQ.assign (d:=.tup ((cR dr).map λ(k:Nat)=>.int k)) 4 (d6.loc rfl rfl hv) ?_ ?_)
 .have e2:((dr/552%3:Nat):Int)=((dr:Int).fdiv 552).fmod 3:=by rw[Sz _ (by exact TY _),SD _ (by exact TY _)];rfl
  have e3:(((dr%24+1+dr/24%23)%24:Nat):Int)=(((dr%24:Nat):Int)+1+((dr:Int).fdiv 24).fmod 23).fmod 24:=by (refine V3 ?_ (V7 (Sz _ (TY _)));refine Eq.substr (Sz _ (TY _)) ?_;refine Eq.substr (SD _ (TY _)) ?_);rfl
  refine Ev.Es (i:=((dr/552%3:Nat):Int)) (ds:=[.tup [.int ((dr%24:Nat):Int),.int (((dr%24+1+dr/24%23)%24:Nat):Int)],.tup [.int ((dr%24:Nat):Int),.int 24],.tup [.int 24,.int 25]]) ?_ ?_ (At.nat ?_ (Tc rfl)) (hs:= ?hs)
  case hs=>intro o i;exact⟨_,by with_unfolding_all rfl⟩
  .rw[e3];refine(Ev.tup (a:=(b8.cons (a:=(Ev.tup (a:=(b8.cons (Ev.nm rfl) (b:=(b8.cons (a:=(Ev.bin (a:=(Ev.bin (a:=(Ev.bin (a:=(Ev.nm rfl)) (b:=Ev.cw) (p:=p_add))) (b:=(Ev.bin (a:=(Ev.bin (a:=(Ev.nm rfl)) (b:=Ev.cw) (p:=(Ab (by decide) (by decide))))) (b:=Ev.cw) (p:=(mF (by decide))))) (p:=p_add))) (b:=Ev.cw) (p:=(mF (by decide))))) (b:=b8.nil))))) (hsz:=(Tc rfl)))) (b:=(b8.cons (a:=(Ev.tup (a:=(b8.cons (Ev.nm rfl) (b:=(b8.cons (a:=Ev.cw) (b:=b8.nil))))) (hsz:=(Tc rfl)))) (b:=(b8.cons (a:=(Ev.tup (a:=(b8.cons (a:=Ev.cw) (b:=(b8.cons (a:=Ev.cw) (b:=b8.nil))))) (hsz:=(Tc rfl)))) (b:=b8.nil))))))) (hsz:=(Tc rfl)))
  .rw[e2];refine(Ev.bin (a:=(Ev.bin (a:=(Ev.nm rfl)) (b:=Ev.cw) (p:=(Ab (by decide) (by decide))))) (b:=Ev.cw) (p:=(mF (by decide))))
  unfold cR;have:dr/552%3<3:=VZ _ (VC _);generalize dr/552%3=m at*
  match m,this with
  |0,_=>rfl
  |1,_=>rfl
  |2,_=>rfl
 have hz:(cR dr).length<=sizeLine:=by
  have:(cR dr).length=2:=by unfold cR;split;rfl;split<;>rfl
  rw[this];exact Tc rfl
 have Jo:(cR dr).filter (λ_=>true)=cR dr:=by simp
 refine Ex.cons (bQ.ret (Ev.tup (b8.cons (d:=.list ((cR dr).map λk=>.str (one (fc k)))) ?_ (b8.cons (d:=.list ((cR dr).map λk=>.int (numAt k))) ?_ b8.nil (he:= ?h1)) (he:= ?h2)) (hsz:=by simp[sizeLine])) rfl)
 case h1=>with_unfolding_all rfl
 case h2=>with_unfolding_all rfl
 .refine(bw.all (cl:=[(S "menu",L+1)]) [S "spot",S "menu"] (gN:=[.no,.val (.str (T kT))]) (cR dr) (λ(k:Nat)=>.int k) (λk=>.str (one (fc k))) (λρ=>∃sl,ρ=[sl,.val (.str (T kT))]) (ef.of (Ev.nm rfl) rD) (Vs.no (Vs.val 1 rfl rfl (λC=>⟨.inl rfl,.inl rfl,rfl⟩) .nil)) hz ⟨_,rfl⟩ ?_ ?_).LC.ev
  rotate_left
  .with_unfolding_all rfl
  intro C l acc x my hx bx;obtain⟨sl,rfl⟩:=bx;refine dG [.val (.int x),.val (.str (T kT))] ⟨_,rfl⟩ (As.name 1 (d6.loc rfl rfl (show[accN,S "spot",S "menu"].Nodup by decide))) ?_;have cB:=te dr x hx;refine Ev.mK (x:=T kT) (i:=(x:Int)) (c:=fc x) (Ev.nm rfl) (Ev.nm rfl) (At.nat ?_ (by decide)) (hs:= ?hs)
  case hs=>intro o i;exact⟨_,by with_unfolding_all rfl⟩
  refine(?_:kT[x]? =_);unfold fc;rw[Su,SK (show x<kT.length from cB)];rfl
 refine(bw.all (cl:=[(S "known",L+1+1)]) [S "spot",S "known"] (gN:=[.no,.val (aa iF)]) (cR dr) (λ(k:Nat)=>.int k) (λk=>.int (numAt k)) (λρ=>∃sl,ρ=[sl,.val (aa iF)]) (ef.of (Ev.nm rfl) rD) (Vs.no (Vs.val 2 rfl rfl (λC=>⟨.inl rfl,.inl rfl,rfl⟩) .nil)) hz ⟨_,rfl⟩ ?_ ?_).LC.ev
 rotate_left
 .with_unfolding_all rfl
 intro C l acc x my hx bx;obtain⟨sl,rfl⟩:=bx;refine dG [.val (.int x),.val (aa iF)] ⟨_,rfl⟩ (As.name 1 (d6.loc rfl rfl (show[accN,S "spot",S "known"].Nodup by decide))) ?_;have cB:=te dr x hx;have hs:At (iF.map D.int) (x:Int) (.int (numAt x)):=At.nat (by rw[Uc];unfold numAt;rw[Su,SK (show x<iF.length from cB)];rfl) (by decide);refine(Ev.zw (a:=(Ev.nm rfl)) (b:=(Ev.nm rfl)) (h:= ?_));exact hs
mutual
noncomputable def D.pure:D->Bool
 |.int _=>true
 |.str _=>true
 |.list xs=>kQ xs
 |.tup xs=>kQ xs
 |_=>false
noncomputable def kQ:List D->Bool
 |[]=>true
 |d::ds=>d.pure&&kQ ds
end
def CG{i:Int}:D.py (.int i)=.int i:=rfl
def CE{x:Str}:D.py (.str x)=.str x:=rfl
def CF{xs:List D}:D.py (.list xs)=.list (m7 xs):=rfl
def CD{xs:List D}:D.py (.tup xs)=.tuple (m7 xs):=rfl
mutual
theorem jw:∀(a b:D),a.pure=true->b.pure=true->(a.eqv b=true↔a=b)
 |.int i,b,ha,hb=>by induction b using D.casesOn<;>first|exact fR hb|simp[D.eqv,CG,CE,CF,CD,PyData.eqv]
 |.str x,b,ha,hb=>by induction b using D.casesOn<;>first|exact fR hb|simp[D.eqv,CG,CE,CF,CD,PyData.eqv]
 |.list xs,b,ha,hb=>by
  induction b using D.casesOn<;>first|exact fR hb|simp[D.eqv,CG,CE,CF,CD,PyData.eqv]
  exact mv xs _ ha hb
 |.tup xs,b,ha,hb=>by
  induction b using D.casesOn<;>first|exact fR hb|simp[D.eqv,CG,CE,CF,CD,PyData.eqv]
  exact mv xs _ ha hb
 |.none,b,ha,_=>fR ha
 |.bool _,b,ha,_=>fR ha
 |.aG _,b,ha,_=>fR ha
 |.cF _,b,ha,_=>fR ha
 |.judge _,b,ha,_=>fR ha
theorem mv:∀(a b:List D),kQ a=true->kQ b=true->(PyData.eqvAll (m7 a) (m7 b)=true↔a=b)
 |[],[],_,_=>by simp[zm,pU,PyData.eqvAll]
 |[],b::bs,_,_=>by simp[zm,pU,PyData.eqvAll]
 |a::as,[],_,_=>by simp[zm,pU,PyData.eqvAll]
 |a::as,b::bs,ha,hb=>by simp only[show∀(d:D) ds,kQ (d::ds)=(d.pure&&kQ ds)from λ_ _=>rfl,Uw]at ha hb;have h1:=jw a b ha.1 hb.1;have h2:=mv as bs ha.2 hb.2;simp only[D.eqv]at h1;simp[pU,PyData.eqvAll,h1,h2]
end
end
noncomputable def gk(e:Expr):Bool:=e.ctorIdx !=7
noncomputable def iD(e:Expr):Bool:=e.ctorIdx !=16
noncomputable def jJ(e:Expr):Bool:=e.ctorIdx !=26
noncomputable def plainT:Expr->Bool
 |.UnaryOp .Not _ _=>false
 |.BoolOp _ _ _=>false
 |.IfExp _ _ _ _=>false
 |.Compare _ _ _ _=>false
 |_=>true
noncomputable def Ag(e:Expr):Bool:=e.ctorIdx==25
def AL(h:¬jJ i=true):∃lo hi st q,i=.Slice lo hi st q:=by induction i using Expr.casesOn<;>first|exact⟨_,_,_,_,rfl⟩|exact absurd rfl h
def gL(h:iD o=true):attributeBase o name env t=t:=by induction o using Expr.casesOn<;>first|rfl|exact fR h
def jL(h:gk e=true):foldedSetIterable e env x=pure x:=by induction e using Expr.casesOn<;>first|rfl|exact fR h
def tq(h:gk r=true):behindInMarks op r=false:=by induction r using Expr.casesOn<;>first|rfl|exact fR h
def AE(h:plainT e=true):isTrue e env (eval e env)=(do let v<-eval e env;standAt e.pos;holding [v] (truthy v)):=by
 induction e using Expr.casesOn with
 |UnaryOp op x p=>induction op using UnaryOp.casesOn<;>first|rfl|exact fR h
 |_=>first|rfl|(exact Bool.noConfusion ‹_›)
def nZ(h:jJ e=true):k6 e:=λo i=>by induction e using Expr.casesOn<;>first|exact⟨_,rfl⟩|exact fR h
def AG:∀{es:List Expr},es.all noStar=true->starEach es env=es.map λe=>(false,eval e env):=by
 intro l';induction l' with
 |nil=>exact @λ_=>rfl
 |cons e es aU=>exact @λh=>by rw[Vu,Uw]at h;rw[iL h.1,aU h.2];rfl
def dT{pos:Pos}(h:es.all noStar=true):(backTo pos (starEach es env)).any (·.1)=false/\(backTo pos (starEach es env)).all (λx=> !x.1)=true:=by
 rw[AG h];unfold backTo;constructor
 .rw[VA,any_map];exact any_eq_false.mpr λx _=>by simp
 rw[VA,all_map];exact UE.mpr λx _=>by rfl
def ru(h:es.all noStar=true)(hz:es.length<20):((backTo pos (starEach es env)).all (λx=> !x.1)&&(backToKw pos (keywordEach [] env)).all (λx=>x.1.isSome)
 &&decide (es.length+([]:List Keyword).length+(if([]:List Keyword).isEmpty then 0 else 1)<30))=true:=by
 rw[(dT h).2];have:(backToKw pos (keywordEach [] env))=[]:=rfl;rw[this];simp;exact TZ ‹_› (by decide)
noncomputable def ae:Operator->D->D->D
 |.Add,.int a,.int b=>.int (a+b)
 |.Add,.list a,.list b=>.list (a++b)
 |.Add,.str a,.str b=>.str (a++b)
 |.Sub,.int a,.int b=>.int (a - b)
 |.Mult,.int a,.int b=>.int (a*b)
 |.Mult,.list a,.int x=>.list (replicate x.toNat a).flatten
 |.FloorDiv,.int a,.int b=>.int (a.fdiv b)
 |.Mod,.int a,.int b=>.int (a.fmod b)
 |.Pow,.int a,.int b=>.int (a^b.toNat)
 |_,_,_=>.none
noncomputable def bf:Operator->D->D->Prop
 |.Add,.int _,.int _=>True
 |.Add,.list a,.list b=>a.length+b.length<=sizeLine
 |.Add,.str a,.str b=>a.length+b.length<=sizeLine
 |.Sub,.int _,.int _=>True
 |.Mult,.int a,.int b=>IntMulOk a b
 |.Mult,.list a,.int x=>1<=x/\x<100/\a.length*x.toNat<=2^24
 |.FloorDiv,.int a,.int b=>b≠0/\Builtin.divisionGoesByPylong a b=false
 |.Mod,.int _,.int b=>b≠0
 |.Pow,.int a,.int b=>0<=b/\b<=1000000/\a.natAbs<2^64
 |_,_,_=>False
def AX(op:Operator)(a b:D)(h:bf op a b):P2 G n a b (binaryOp op) (ae op a b):=by
 induction op using Operator.casesOn with
 |Add=>
  induction a using D.casesOn with
  |int x=>induction b using D.casesOn<;>first|exact p_add|exact h.elim
  |list x=>induction b using D.casesOn<;>first|exact uN h|exact h.elim
  |str x=>induction b using D.casesOn<;>first|exact GF h|exact h.elim
  |_=>exact h.elim
 |Sub=>induction a using D.casesOn with
  |int x=>induction b using D.casesOn<;>first|exact pV|exact h.elim
  |_=>exact h.elim
 |Mult=>induction a using D.casesOn with
  |int x=>induction b using D.casesOn<;>first|exact pW h|exact h.elim
  |list x=>induction b using D.casesOn<;>first|exact GD h.1 h.2.1 h.2.2|exact h.elim
  |_=>exact h.elim
 |FloorDiv=>induction a using D.casesOn with
  |int x=>induction b using D.casesOn<;>first|exact Ei h.1 h.2|exact h.elim
  |_=>exact h.elim
 |Mod=>induction a using D.casesOn with
  |int x=>induction b using D.casesOn<;>first|exact mF h|exact h.elim
  |_=>exact h.elim
 |Pow=>induction a using D.casesOn with
  |int x=>induction b using D.casesOn<;>first|exact J1 h.1 h.2.1 h.2.2|exact h.elim
  |_=>exact h.elim
 |_=>exact h.elim
noncomputable def qX:D->D->Bool
 |.int a,.int b=>decide (a=b)
 |.str a,.str b=>decide (a=b)
 |a,b=>a.eqv b
noncomputable def IT:D->D->Prop
 |.int _,.int _=>True
 |.str _,.str _=>True
 |a,b=>a.flat=true/\b.flat=true/\a.deep<=20
def CX(a b:Str):D.eqv (.str a) (.str b)=decide (a=b):=by show PyData.eqv (.str a) (.str b)=_;simp only[PyData.eqv];by_cases h:a=b<;>rfl
def Dt(a b:Int):D.eqv (.int a) (.int b)=decide (a=b):=by show PyData.eqv (.int a) (.int b)=_;simp only[PyData.eqv];by_cases h:a=b<;>rfl
def gK(a b:D):qX a b=a.eqv b:=by
 induction a using D.casesOn with
 |int a=>induction b using D.casesOn<;>first|exact(Dt _ _).symm|rfl
 |str a=>induction b using D.casesOn<;>first|exact(CX _ _).symm|rfl
 |_=>rfl
noncomputable def ag:CmpOp->D->D->Bool
 |.Eq,a,b=>qX a b
 |.NotEq,a,b=> !qX a b
 |.Lt,.int a,.int b=>decide (a<b)
 |.Gt,.int a,.int b=>decide (b<a)
 |.LtE,.int a,.int b=>decide (a<=b)
 |.GtE,.int a,.int b=>decide (b<=a)
 |.Is,.bool a,.bool b=>a==b
 |.In,.int x,.aG aH=>(look aH x).isSome
 |.In,.str b,.str a=> !(Builtin.Str.occurrences a b 0 a.length 1).isEmpty
 |.In,x,.list xs=>xs.any λy=>qX y x
 |.NotIn,x,.list xs=> !xs.any λy=>qX y x
 |_,_,_=>false
noncomputable def aV:CmpOp->D->D->Prop
 |.Eq,a,b=>IT a b
 |.NotEq,.int _,.int _=>True
 |.NotEq,a,b=>a.flat=true/\b.flat=true/\a.deep<=20
 |.Lt,.int _,.int _=>True
 |.Gt,.int _,.int _=>True
 |.LtE,.int _,.int _=>True
 |.GtE,.int _,.int _=>True
 |.Is,.bool _,.bool _=>True
 |.In,.int _,.aG _=>True
 |.In,.str _,.str _=>True
 |.In,x,.list xs=>x.flat=true/\dA xs=true/\x.deep<=20
 |.NotIn,x,.list xs=>x.flat=true/\dA xs=true/\x.deep<=20
 |_,_,_=>False
def P2.to(h:P2 G n a b t r)(e:r=r'):P2 G n a b t r':=e▸h
def wV(op:CmpOp)(a b:D)(h:aV op a b):P2 G n a b (compareOp op) (.bool (ag op a b)):=by
 have Pb:(λ(y:D)=>qX y a)=λy=>y.eqv a:=funext λy=>gK y a;induction op using CmpOp.casesOn with
 |Eq=>
  have h:IT a b:=h;have k:a.flat=true/\b.flat=true/\a.deep<=20->P2 G n a b (compareOp .Eq) (.bool (qX a b)):=λg=>P2.to (J6 g.1 g.2.1 g.2.2) (V4 D.bool (gK a b).symm);induction a using D.casesOn with
  |int x=>induction b using D.casesOn<;>first|exact k h|exact CI
  |str x=>induction b using D.casesOn<;>first|exact k h|exact nM
  |_=>exact k h
 |NotEq=>
  have g:a.flat=true/\b.flat=true/\a.deep<=20:=by
   induction a using D.casesOn with
   |int x=>induction b using D.casesOn<;>first|exact h|exact⟨rfl,rfl,VO _⟩
   |_=>exact h
  exact P2.to (J2 g.1 g.2.1 g.2.2) (V4 (λz=>D.bool (!z)) (gK a b).symm)
 |Lt=>induction a using D.casesOn with
  |int x=>induction b using D.casesOn<;>first|exact CH|exact h.elim
  |_=>exact h.elim
 |Gt=>induction a using D.casesOn with
  |int x=>induction b using D.casesOn<;>first|exact yS|exact h.elim
  |_=>exact h.elim
 |LtE=>induction a using D.casesOn with
  |int x=>induction b using D.casesOn<;>first|exact M8|exact h.elim
  |_=>exact h.elim
 |GtE=>induction a using D.casesOn with
  |int x=>induction b using D.casesOn<;>first|exact IS|exact h.elim
  |_=>exact h.elim
 |Is=>induction a using D.casesOn with
  |bool x=>induction b using D.casesOn<;>first|exact xS|exact h.elim
  |_=>exact h.elim
 |In=>
  induction b using D.casesOn with
  |aG aH=>induction a using D.casesOn<;>first|exact J5|exact h.elim
  |str y=>induction a using D.casesOn<;>first|exact J3|exact h.elim
  |list xs=>
   have g:a.flat=true/\dA xs=true/\a.deep<=20:=by induction a using D.casesOn<;>exact h
   exact P2.to (J4 g.1 g.2.1 g.2.2) (by rw[<-Pb];induction a using D.casesOn<;>rfl)
  |_=>induction a using D.casesOn<;>exact h.elim
 |NotIn=>
  induction b using D.casesOn with
  |list xs=>exact P2.to (AW h.1 h.2.1 h.2.2) (by rw[<-Pb];rfl)
  |_=>exact h.elim
 |_=>exact h.elim
noncomputable def tr:D->Bool
 |.bool b=>b
 |.int i=>i !=0
 |.str x=>(x.length:Int) !=0
 |_=>false
noncomputable def pn:D->Prop
 |.bool _=>True
 |.int _=>True
 |.str x=>x.length<2^40
 |_=>False
def D8(d:D)(h:pn d):PT G n d (tr d):=by
 induction d using D.casesOn with
 |bool b=>exact zY
 |int i=>exact zh
 |str x=>exact Ec h
 |_=>exact h.elim
noncomputable def ke{α:Type}(xs:List α)(i:Int)(z:α):α:=if 0<=i then xs.getD i.toNat z else xs.getD (i+xs.length).toNat z
noncomputable def Fc{α:Type}(xs:List α)(i:Int):Prop:= -(xs.length:Int)<=i/\i<xs.length/\xs.length<2^40
def rJ{α:Type}{xs:List α}(z:α)(h:Fc xs i):At xs i (ke xs i z):=by
 refine dW h λh1 h2 h3=>?_;unfold ke;by_cases h0:0<=i
 .rw[if_pos h0];refine⟨i.toNat,?_,.inl (by exact(TJ ‹_›).symm),by exact(ar 2 3 [_,_] [_] [.L Qa bA,.l Va o9,.i vP (.Q ew Qa),.i (.E Qa K0) (.q Vb K0)] (.l Vb o9)) h2 h3 TJ TQ,h3⟩;rw[Su,SK (by exact(ar 2 3 [_,_] [_] [.L Qa bA,.E K0 Qa,.i vP (.Q ew Qa)] (.l Vb Va)) h2 h0 TJ)];rfl
 rw[if_neg h0];refine⟨(i+xs.length).toNat,?_,.inr (by exact(ar 2 3 [_,_] [_] [.E pP Qa,.i (.E K0 (.a Qa bA)) (.Q ew (.a Qa bA))] (.Q Qa (.s ew bA))) h1 TJ),by exact(ar 2 3 [_,_] [_] [.l Va o9,.n vP,.i (.E K0 (.a Qa bA)) (.Q ew (.a Qa bA)),.i (.E (.a Qa bA) K0) (.q Vb K0)] (.l Vb o9)) h3 h0 TJ TQ,h3⟩;rw[Su,SK (by exact(ar 2 3 [_,_] [_] [.E pP Qa,.n vP,.i (.E K0 (.a Qa bA)) (.Q ew (.a Qa bA))] (.l Vb Va)) h1 h0 TJ)];rfl
def qz{κ:Type}[DecidableEq κ]{aH:List (κ×D)}{k:κ}(h:(look aH k).isSome=true):look aH k=some ((look aH k).getD .none):=by
 cases e:look aH k with
 |none=>rw[e]at h;cases h
 |some d=>rfl
noncomputable def oi:Option D->Option Int
 |some (.int i)=>some i
 |_=>none
noncomputable def Fb:Option D->Prop
 |none=>True
 |some (.int _)=>True
 |_=>False
noncomputable def j6:D->Option D->Option D->D
 |.list ds,lo,hi=>.list (cut ds (oi lo) (oi hi))
 |.str x,lo,hi=>.str (jV x (oi lo) (oi hi))
 |.tup ds,_,some (.int a)=>.tup (ds.take a.toNat)
 |_,_,_=>.none
noncomputable def nH:D->Option D->Option D->Prop
 |.list ds,lo,hi=>ds.length<=sizeLine/\Fb lo/\Fb hi
 |.str x,lo,hi=>x.length<=sizeLine/\Fb lo/\Fb hi
 |.tup ds,none,some (.int a)=>0<=a/\a<ds.length/\ds.length<=sizeLine
 |_,_,_=>False
def Gz(d:D)(lo hi:Option D)(h:nH d lo hi):Fb lo/\Fb hi/\PS G n d (oi lo) (oi hi) (j6 d lo hi):=by
 induction d using D.casesOn with
 |list ds=>exact⟨h.2.1,h.2.2,C6 h.1⟩
 |str x=>exact⟨h.2.1,h.2.2,n5 h.1⟩
 |tup ds=>
  induction lo using Option.casesOn with
  |some x=>exact h.elim
  |none=>
   induction hi using Option.casesOn with
   |none=>exact h.elim
   |some x=>
    induction x using D.casesOn with
    |int a=>
     refine dW h λh1 h2 h3=>?_;refine⟨Wa,Wa,?_⟩;have e:a=((a.toNat:Nat):Int):=by exact(TJ ‹_›).symm
     have:=xN (G:=G) (n:=n) (ds:=ds) (a:=a.toNat) (by exact(ar 2 3 [_,_] [_] [.L Qa bA,.Q Qa ew] (.l Vb Va)) h2 e) h3;rw[<-e]at this;exact this
    |_=>exact h.elim
 |_=>exact h.elim
noncomputable def a9:D->D
 |.int a=>.int (-a)
 |_=>.none
noncomputable def dz:D->Prop
 |.int _=>True
 |_=>False
noncomputable def toS:D->Str
 |.str i=>i
 |_=>⟨#[]⟩
def JR:toS (.str x)=x:=rfl
noncomputable def je:D->Int
 |.int i=>i
 |_=>0
def D9:je (.int i)=i:=rfl
noncomputable def aN:D->List D
 |.list ds=>ds
 |.tup ds=>ds
 |.str x=>iC x
 |.aG aH=>aH.map λkv=>.int kv.1
 |_=>[]
noncomputable def bB:D->Prop
 |.list _=>True
 |.tup _=>True
 |.str _=>True
 |.aG _=>True
 |_=>False
def G3(d:D)(h:bB d):HW G n t d (aN d):=by
 induction d using D.casesOn with
 |list ds=>exact tl
 |tup ds=>exact rD
 |str x=>exact wm
 |aG aH=>exact xO
 |_=>exact h.elim
noncomputable def sP(f:Str):Bool:=f==S "range"||f==S "zip"||f==S "enumerate"
noncomputable def ui(p:Int->Prop):D->Prop
 |.int i=>p i
 |_=>False
noncomputable def Ff(p:List D->Prop):D->Prop
 |.list i=>p i
 |_=>False
noncomputable def Li(p:Str->Prop):D->Prop
 |.str i=>p i
 |_=>False
noncomputable def idx:D->D->D
 |.list ds,i=>ke ds (je i) .none
 |.tup ds,i=>ke ds (je i) .none
 |.str x,i=>.str (one (ke x.cps.toList (je i) 0))
 |.aG aH,i=>(look aH (je i)).getD .none
 |.cF aH,i=>(look aH (toS i)).getD .none
 |_,_=>.none
noncomputable def ax:D->D->Prop
 |.list ds,i=>ui (Fc ds) i
 |.tup ds,i=>ui (Fc ds) i
 |.str x,i=>ui (Fc x.cps.toList) i
 |.aG aH,i=>ui (λi=>(look aH i).isSome=true) i
 |.cF aH,i=>Li (λi=>(look aH i).isSome=true) i
 |_,_=>False
def eB(h:ui p d):∃i,d=.int i/\p i:=by induction d using D.casesOn<;>first|exact h.elim|exact bH _ rfl h
def l5(h:Ff p d):∃i,d=.list i/\p i:=by induction d using D.casesOn<;>first|exact h.elim|exact bH _ rfl h
def uU(h:Li p d):∃i,d=.str i/\p i:=by induction d using D.casesOn<;>first|exact h.elim|exact bH _ rfl h
noncomputable def Fd(p:D->Prop):List D->Prop
 |[]=>False
 |[d]=>p d
 |_::_::_=>False
noncomputable def Hz(p:D->D->Prop):List D->Prop
 |[]=>False
 |[_]=>False
 |[a,b]=>p a b
 |_::_::_::_=>False
def lZ(h:Fd p ds):∃d,ds=[d]/\p d:=by
 induction ds using List.casesOn with
 |nil=>exact h.elim
 |cons d ds=>induction ds using List.casesOn with
  |nil=>exact bH _ rfl h
  |cons _ _=>exact h.elim
def n9(h:Hz p ds):∃a b,ds=[a,b]/\p a b:=by
 induction ds using List.casesOn with
 |nil=>exact h.elim
 |cons d ds=>induction ds using List.casesOn with
  |nil=>exact h.elim
  |cons e ds=>induction ds using List.casesOn with
   |nil=>exact sQ _ _ rfl h
   |cons _ _=>exact h.elim
noncomputable def Pz:List D->List D
 |[]=>[]
 |[x]=>(cH 0 (je x) 1).map .int
 |x::y::_=>(cH (je x) (je y) 1).map .int
noncomputable def M0:List D->Prop
 |[]=>False
 |[x]=>ui (λb=>Builtin.Range.small 0 b 1=true) x
 |x::y::[]=>ui (λa=>ui (λb=>Builtin.Range.small a b 1=true) y) x
 |_::_::_::_=>False
noncomputable def kC(f:Str)(ds:List D):List D:=
 if f==S "range" then Pz ds
 else if f==S "zip" then(uz (aN (ds.headD .none)) (aN (ds.getD 1 .none))).map .tup
 else(nV (aN (ds.headD .none))).map .tup
noncomputable def i6(t:Bool)(f:Str)(ds:List D):Prop:=
 if f==S "range" then M0 ds
 else if f==S "zip" then t=true/\Hz (λx y=>Ff (λ_=>Ff (λ_=>True) y) x) ds
 else t=true/\Fd (Ff λ_=>True) ds
noncomputable abbrev Gt:=Str->D
structure Sx where
 σ:Str->Option NameKind
 st:Str->Bool
 pO:Str->Bool
set_option genInjectivity false in
structure jX where
 glob:Str->D
 l6:Str->Prop
 call:Str->List D->D
 bJ:Str->List D->Prop
 cZ:Str->D->List D->D
 eS:Str->D->List D->Prop
noncomputable def nameOf:Expr->Option Str
 |.Name x _=>some x
 |_=>none
def rE(h:(nameOf t).isSome=true):∃x p,t=.Name x p:=by induction t using Expr.casesOn<;>first|exact⟨_,_,rfl⟩|exact fR h
noncomputable def lY:Expr->List Str
 |.Name x _=>[x]
 |.Tuple ts _ _=>ts.filterMap nameOf
 |_=>[]
noncomputable def LR:Expr->Bool
 |.Name _ _=>true
 |.Tuple ts _ _=>ts.all λt=>(nameOf t).isSome
 |_=>false
def z0(h:LR t=true):(∃x p,t=.Name x p)\/∃ts j p,t=.Tuple ts j p:=by induction t using Expr.casesOn<;>first|exact .inl ⟨_,_,rfl⟩|exact .inr ⟨_,_,_,rfl⟩|exact fR h
noncomputable def sj(x:Str)(d:D)(g:Gt):Gt:=λy=>if y==x then d else g y
noncomputable def aF:D->List D
 |.tup ds=>ds
 |_=>[]
noncomputable def bindL:List Expr->List D->Gt->Gt
 |.Name x _::ts,ds,g=>bindL ts ds.tail (sj x (ds.headD .none) g)
 |_,_,g=>g
noncomputable def bindG:Expr->D->Gt->Gt
 |.Name x _,d,g=>sj x d g
 |.Tuple ts _ _,d,g=>bindL ts (aF d) g
 |_,_,g=>g
noncomputable def i5:D->Nat->Prop
 |.tup ds,n=>ds.length=n
 |_,_=>False
noncomputable def gS:Expr->D->Prop
 |.Name _ _,_=>True
 |.Tuple ts _ _,d=>i5 d ts.length
 |_,_=>False
noncomputable def Sx.kZ(S:Sx)(xs:List Str):Sx:={S with pO:=λy=>S.pO y||xs.contains y}
noncomputable def Sx.bind(S:Sx)(t:Expr):Sx:=S.kZ (lY t)
noncomputable def kP(names:List (Str×NameKind))(σ:Str->Option NameKind):List (Str×NameKind):=
 names.map λ(n,k)=>if(k==.free&&σ n==some .cell)then(n,.cell)else(n,k)
noncomputable def Sx.inner(S:Sx)(sc:Scope):Sx where
 σ:=λx=>(kP sc.names S.σ).lookup x
 st:=λx=>x !=accN&&(sc.names.lookup x==some .local||sc.names.lookup x==some .cell)
 pO:=λx=>sc.names.lookup x==some .free&&(S.σ x==some .cell||S.σ x==some .free)&&S.pO x
noncomputable def yE(S:Sx)(t:Expr):Bool:=LR t&&(lY t).all λx=>S.st x&& !S.pO x
noncomputable abbrev LL:=Bool->Sx->Expr->Bool
noncomputable def sE(r:LL)(S:Sx):List Expr->Bool
 |[]=>true
 |[c]=>r true S c
 |_=>false
noncomputable def og:Expr->Option (Str×List Expr)
 |.Call (.Name f _) args [] _=>if sP f then some (f,args)else none
 |_=>none
noncomputable def mD(r:LL)(S:Sx)(e:Expr):Bool:=
 match og e with
 |some (f,args)=> !args.isEmpty&&args.all noStar&&args.all (r false S)&&S.σ f==some .globalImplicit
 |none=>gk e&&r false S e
noncomputable def nK(r:LL)(elt:Expr):List Comprehension->Sx->Expr->List Expr->Bool
 |[],S,t,ifs=>yE S t&&sE r (S.bind t) ifs&&r false (S.bind t) elt
 |⟨t2,o7,ka,a⟩::rest,S,t,ifs=>a==0&&yE S t&&sE r (S.bind t) ifs&&mD r (S.bind t) o7&&gk o7&&nK r elt rest (S.bind t) t2 ka
def CY{S:Sx}:nK r elt [] S t ifs=(yE S t&&sE r (S.bind t) ifs&&r false (S.bind t) elt):=rfl
def rC{S:Sx}{rest:List Comprehension}:nK r elt (⟨t2,o7,ka,a⟩::rest) S t ifs=(a==0&&yE S t&&sE r (S.bind t) ifs&&mD r (S.bind t) o7&&gk o7&&nK r elt rest (S.bind t) t2 ka):=rfl
noncomputable def mE(S:Sx)(sc:Scope):Bool:=
 sc.kind==.function&&decide (sc.names.map (·.1)).Nodup&&(sc.names.all λx=>x.2 !=.local||sc.names.lookup x.1==some .local)
  &&(sc.names.all λx=>x.2 !=.free||(S.σ x.1==some .cell||S.σ x.1==some .free))&& !(sc.names.map (·.1)).contains accN
noncomputable def gU:Str:="__debug__"
noncomputable def rv:Str:="__classdict__"
noncomputable def oD:List Expr->Option (Expr×Str×Pos×Pos)
 |[.Call (.Attribute o m apos) [] [] pos]=>some (o,m,apos,pos)
 |_=>none
noncomputable def eu(f:Str)(args:List Expr):Option (Expr×Pos×Pos):=
 match oD args with
 |some (o,m,apos,pos)=>if f==S "list"&&m==S "items" then some (o,apos,pos)else none
 |none=>none
noncomputable def a8:Nat->LL
 |0,_,_,_=>false
 |f+1,true,S,e=>match e with
  |.BoolOp _ es _=>es.all (a8 f true S)
  |.UnaryOp .Not x _=>a8 f true S x
  |.Compare l [_] [x] _=>gk x&&a8 f false S l&&a8 f false S x
  |e=>plainT e&&a8 f false S e
 |f+1,false,S,e=>match e with
  |.Constant (.int _) _ _=>true
  |.Constant (.str _) _ _=>true
  |.Constant (.bool _) _ _=>true
  |.Constant .none _ _=>true
  |.Name x _=>x !=gU&&x !=rv&&(S.pO x||S.σ x==some .globalImplicit)
  |.BinOp a _ b _=>a8 f false S a&&a8 f false S b
  |.UnaryOp .USub a _=>a8 f false S a
  |.Compare l [_] [x] _=>gk x&&a8 f false S l&&a8 f false S x
  |.BoolOp .And [x] _=>a8 f false S x
  |.BoolOp .And (x::y::r) p=>a8 f false S x&&a8 f false S (.BoolOp .And (y::r) p)
  |.IfExp t a b _=>a8 f true S t&&a8 f false S a&&a8 f false S b
  |.Tuple es _ _=>es.all noStar&&es.all (a8 f false S)
  |.List es _=>es.all noStar&&es.all (a8 f false S)
  |.Dict ks vs _=>ks.all (λk=>match k with|some e=>a8 f false S e|none=>false)&&vs.all (a8 f false S)&&ks.length==vs.length&&decide (ks.length<=15)
  |.Subscript v (.Slice lo hi none _) _=>a8 f false S v&&lo.all (a8 f false S)&&hi.all (a8 f false S)
  |.Subscript v i _=>jJ i&&a8 f false S v&&a8 f false S i
  |.Call (.Name g _) args [] _=>match eu g args with
   |some (o,apos,pos)=>S.σ g==some .globalImplicit&&iD o&&a8 f false S o&&apos.endLine==pos.line
   |none=>S.σ g==some .globalImplicit&&g !=gU&& !args.isEmpty&&args.all noStar&&args.all (a8 f false S)
  |.Call (.Attribute o _ apos) args [] pos=>iD o&&a8 f false S o&&apos.endLine==pos.line&&args.all noStar&&args.all (a8 f false S)&&decide (args.length<20)
  |.ListComp elt (⟨t,it,ifs,a⟩::rest) sc _=>a==0&&gk it&&mD (a8 f) S it&&mE S sc&&nK (a8 f) elt rest (S.inner sc) t ifs
  |_=>false
structure Sm where
 val:Sx->Gt->Expr->D
 lQ:Sx->Gt->Expr->Bool
noncomputable def kJ(r:Sm)(S:Sx)(g:Gt)(e:Expr):List D:=
 match og e with
 |some (f,args)=>kC f (args.map (r.val S g))
 |none=>aN (r.val S g e)
noncomputable def Ft(r:Sm)(S:Sx)(t:Expr)(g:Gt):List Expr->List D->List D
 |c::_,ds=>ds.filter λd=>r.lQ S (bindG t d g) c
 |[],ds=>ds
noncomputable def rf(r:Sm)(elt:Expr):List Comprehension->Sx->Gt->Expr->List Expr->List D->List D
 |[],S,g,t,ifs,ds=>(Ft r (S.bind t) t g ifs ds).map λd=>r.val (S.bind t) (bindG t d g) elt
 |⟨t2,o7,ka,_⟩::rest,S,g,t,ifs,ds=>(Ft r (S.bind t) t g ifs ds).flatMap λd=>rf r elt rest (S.bind t) (bindG t d g) t2 ka (kJ r (S.bind t) (bindG t d g) o7)
def GH{S:Sx}{ds:List D}:rf r elt [] S g t ifs ds=(Ft r (S.bind t) t g ifs ds).map λd=>r.val (S.bind t) (bindG t d g) elt:=rfl
def GI{S:Sx}{a:Int}{rest:List Comprehension}{ds:List D}:rf r elt (⟨t2,o7,ka,a⟩::rest) S g t ifs ds=(Ft r (S.bind t) t g ifs ds).flatMap λd=>rf r elt rest (S.bind t) (bindG t d g) t2 ka (kJ r (S.bind t) (bindG t d g) o7):=rfl
noncomputable def sU(r:Sm)(S:Sx)(g:Gt):List (Option Expr)->List Expr->List (Int×D)
 |some k::ks,v::vs=>(je (r.val S g k),r.val S g v)::sU r S g ks vs
 |_,_=>[]
noncomputable def itemsOf:D->D
 |.aG aH=>.list (dv aH)
 |_=>.none
noncomputable def MT(L:jX)(r:Sm)(S:Sx)(g:Gt)(e:Expr):D:=
 match e with
 |.Constant (.int i) _ _=>.int i
 |.Constant (.str i) _ _=>.str i
 |.Constant (.bool i) _ _=>.bool i
 |.Constant .none _ _=>.none
 |.Name x _=>if S.pO x then g x else L.glob x
 |.BinOp a op b _=>ae op (r.val S g a) (r.val S g b)
 |.UnaryOp .USub a _=>a9 (r.val S g a)
 |.Compare l [op] [x] _=>.bool (ag op (r.val S g l) (r.val S g x))
 |.BoolOp .And [x] _=>r.val S g x
 |.BoolOp .And (x::y::rest) p=>if tr (r.val S g x)then r.val S g (.BoolOp .And (y::rest) p)else r.val S g x
 |.IfExp t a b _=>if r.lQ S g t then r.val S g a else r.val S g b
 |.Tuple es _ _=>.tup (es.map (r.val S g))
 |.List es _=>.list (es.map (r.val S g))
 |.Dict ks vs _=>.aG (sU r S g ks vs)
 |.Subscript v (.Slice lo hi none _) _=>j6 (r.val S g v) (lo.map (r.val S g)) (hi.map (r.val S g))
 |.Subscript v i _=>idx (r.val S g v) (r.val S g i)
 |.Call (.Name f _) args [] _=>match eu f args with
  |some (o,_,_)=>itemsOf (r.val S g o)
  |none=>L.call f (args.map (r.val S g))
 |.Call (.Attribute o name _) args [] _=>L.cZ name (r.val S g o) (args.map (r.val S g))
 |.ListComp elt (⟨t,it,ifs,_⟩::rest) sc _=>.list (rf r elt rest (S.inner sc) g t ifs (kJ r S g it))
 |_=>.none
noncomputable def MU(r:Sm)(S:Sx)(g:Gt)(e:Expr):Bool:=
 match e with
 |.BoolOp .And es _=>es.all (r.lQ S g)
 |.BoolOp .Or es _=>es.any (r.lQ S g)
 |.UnaryOp .Not x _=> !r.lQ S g x
 |.Compare l [op] [x] _=>ag op (r.val S g l) (r.val S g x)
 |e=>tr (r.val S g e)
noncomputable def sm(L:jX):Nat->Sm
 |0=>⟨λ_ _ _=>.none,λ_ _ _=>false⟩
 |f+1=>⟨MT L (sm L f),MU (sm L f)⟩
structure So where
 val:Sx->Gt->Expr->Prop
 lQ:Sx->Gt->Expr->Prop
noncomputable def kR(q:So)(S:Sx)(g:Gt):List Expr->Prop
 |[]=>True
 |e::es=>q.val S g e/\kR q S g es
noncomputable def n6(r:Sm)(q:So)(S:Sx)(g:Gt)(t e:Expr):Prop:=
 match og e with
 |some (f,args)=>kR q S g args/\i6 (Ag t) f (args.map (r.val S g))
 |none=>q.val S g e/\bB (r.val S g e)
noncomputable def zq(q:So)(S:Sx)(g:Gt):List Expr->Prop
 |c::_=>q.lQ S g c
 |[]=>True
noncomputable def yY(r:Sm)(S:Sx)(g:Gt):List Expr->Bool
 |c::_=>r.lQ S g c
 |[]=>true
noncomputable def uO(r:Sm)(q:So)(elt:Expr):List Comprehension->Sx->Gt->Expr->List Expr->List D->Prop
 |[],S,g,t,ifs,ds=>∀d∈ds,gS t d/\zq q (S.bind t) (bindG t d g) ifs/\(yY r (S.bind t) (bindG t d g) ifs=true->q.val (S.bind t) (bindG t d g) elt)
 |⟨t2,o7,ka,_⟩::rest,S,g,t,ifs,ds=>∀d∈ds,gS t d/\zq q (S.bind t) (bindG t d g) ifs/\(yY r (S.bind t) (bindG t d g) ifs=true->
  n6 r q (S.bind t) (bindG t d g) t2 o7/\uO r q elt rest (S.bind t) (bindG t d g) t2 ka (kJ r (S.bind t) (bindG t d g) o7))
noncomputable def uP(r:Sm)(q:So)(S:Sx)(g:Gt):List (Option Expr)->List Expr->Prop
 |some k::ks,v::vs=>q.val S g k/\dz (r.val S g k)/\q.val S g v/\uP r q S g ks vs
 |_,_=>True
noncomputable def zr(r:Sm)(q:So)(S:Sx)(g:Gt):List Expr->Prop
 |[]=>True
 |e::es=>q.lQ S g e/\(r.lQ S g e=true->zr r q S g es)
noncomputable def FI(r:Sm)(q:So)(S:Sx)(g:Gt):List Expr->Prop
 |[]=>True
 |e::es=>q.lQ S g e/\(r.lQ S g e=false->FI r q S g es)
noncomputable def zp(q:So)(S:Sx)(g:Gt):Option Expr->Prop
 |none=>True
 |some e=>q.val S g e
noncomputable def k8:D->Prop
 |.aG aH=>aH.length<=sizeLine
 |_=>False
noncomputable def PH(L:jX)(r:Sm)(q:So)(S:Sx)(g:Gt)(e:Expr):Prop:=
 match e with
 |.Constant _ _ _=>True
 |.Name x _=>match S.pO x with|true=>True|false=>L.l6 x
 |.BinOp a op b _=>q.val S g a/\q.val S g b/\bf op (r.val S g a) (r.val S g b)
 |.UnaryOp .USub a _=>q.val S g a/\dz (r.val S g a)
 |.Compare l [op] [x] _=>q.val S g l/\q.val S g x/\aV op (r.val S g l) (r.val S g x)
 |.BoolOp .And [x] _=>q.val S g x
 |.BoolOp .And (x::y::rest) p=>q.val S g x/\pn (r.val S g x)/\(tr (r.val S g x)=true->q.val S g (.BoolOp .And (y::rest) p))
 |.IfExp t a b _=>q.lQ S g t/\(r.lQ S g t=true->q.val S g a)/\(r.lQ S g t=false->q.val S g b)
 |.Tuple es _ _=>kR q S g es/\es.length<=sizeLine
 |.List es _=>kR q S g es/\es.length<=sizeLine
 |.Dict ks vs _=>uP r q S g ks vs/\((sU r S g ks vs).map (·.1)).Nodup
 |.Subscript v (.Slice lo hi none _) _=>q.val S g v/\zp q S g lo/\zp q S g hi/\nH (r.val S g v) (lo.map (r.val S g)) (hi.map (r.val S g))
 |.Subscript v i _=>q.val S g v/\q.val S g i/\ax (r.val S g v) (r.val S g i)
 |.Call (.Name f _) args [] _=>match eu f args with
  |some (o,_,_)=>q.val S g o/\k8 (r.val S g o)
  |none=>kR q S g args/\L.bJ f (args.map (r.val S g))
 |.Call (.Attribute o name _) args [] _=>q.val S g o/\kR q S g args/\L.eS name (r.val S g o) (args.map (r.val S g))
 |.ListComp elt (⟨t,it,ifs,_⟩::rest) sc _=>n6 r q S g t it/\uO r q elt rest (S.inner sc) g t ifs (kJ r S g it)/\(rf r elt rest (S.inner sc) g t ifs (kJ r S g it)).length<=sizeLine
 |_=>False
noncomputable def PG(r:Sm)(q:So)(S:Sx)(g:Gt)(e:Expr):Prop:=
 match e with
 |.BoolOp .And es _=>zr r q S g es
 |.BoolOp .Or es _=>FI r q S g es
 |.UnaryOp .Not x _=>q.lQ S g x
 |.Compare l [op] [x] _=>q.val S g l/\q.val S g x/\aV op (r.val S g l) (r.val S g x)
 |e=>q.val S g e/\pn (r.val S g e)
noncomputable def so(L:jX):Nat->So
 |0=>⟨λ_ _ _=>False,λ_ _ _=>False⟩
 |f+1=>⟨PH L (sm L f) (so L f),PG (sm L f) (so L f)⟩
structure Rel(F:Fx)(ρ:RE)(S:Sx)(g:Gt):Prop where
 kind:F.env.scope.kind=.function
 sig:∀x,F.env.kindOf x=S.σ x
 Fy:∀x,S.σ x=some .cell\/S.σ x=some .free->(F.env.cells.lookup x).isSome=true
 Lc:F.vars.Nodup
 H3:∀x,S.st x=true->x≠accN/\∃i:Nat,d6 F i x
 len:ρ.length=F.vars.length
 rd:∀x,S.pO x=true->∃i:Nat,F.vars[i]? =some x/\ρ[i]? =some (Slot.val (g x))
noncomputable def gV(G:Gd)(n:Nat)(f:Str)(ds:List D)(r:D):Prop:=∀(F:Fx) (ρ:RE) (k:Bool) (e:Expr) (es:List Expr) (p pos:Pos),F.env.kindOf f=some .globalImplicit->(f==gU)=false->(e::es).all noStar=true->b8 G F n ρ k (e::es) ds->Ev G F n ρ k (.Call (.Name f p) (e::es) [] pos) r
noncomputable def jq(G:Gd)(n:Nat)(name:Str)(d:D)(ds:List D)(r:D):Prop:=∀(F:Fx) (ρ:RE) (k:Bool) (o:Expr) (es:List Expr) (apos pos:Pos),iD o=true->es.all noStar=true->(apos.endLine==pos.line)=true->es.length<20->es.length=ds.length->Ev G F n ρ k o d->b8 G F n ρ k es ds->Ev G F n ρ k (.Call (.Attribute o name apos) es [] pos) r
structure i8(G:Gd)(n:Nat)(L:jX):Prop where
 w:Wd G
 glob:∀x,L.l6 x->∀(F:Fx) (ρ:RE) (k:Bool) (p:Pos),F.env.kindOf x=some .globalImplicit->(x==gU)=false->Ev G F n ρ k (.Name x p) (L.glob x)
 call:∀x ds,L.bJ x ds->gV G n x ds (L.call x ds)
 cZ:∀x d ds,L.eS x d ds->jq G n x d ds (L.cZ x d ds)
section
variable{G:Gd}{F:Fx}{n:Nat}{ρ:RE}
def cO(h:(e::es).all noStar=true):starEach (e::es) env=(false,eval e env)::starEach es env:=by simp only[Vu,Uw]at h;exact iL h.1
def gV.fn(h:Fn G f n ds r):gV G n f ds r:=λF ρ k e es p pos h1 h2 h3 a=>Ev.vZ h h1 a (cO h3) h2
def gV.bi{f:Str}{id:String}(b:Bn G f (.builtin id))(pl:PL G n ds (λvs=>call (.builtin id) vs) r):gV G n f ds r:=λF ρ k e es p pos h1 h2 h3 a=>by
 have h4:es.all noStar=true:=by rw[Vu,Uw]at h3;exact h3.2
 exact Ev.i7 b h1 a pl (cO h3) (dT h4).1 h2
def jq.of{name:Str}{T id:String}(m:Mt T name id)(hT:d.ty=some T)(pl:PL G n (d::ds) (λvs=>call (.builtin id) vs) r):jq G n name d ds r:=λF ρ k o es apos pos h1 h2 h3 h4 hl a b=>by
 induction es using List.casesOn with
 |nil=>
  induction ds using List.casesOn with
  |nil=>exact Ev.sL m hT a pl (gL h1) h3
  |cons d' ds=>(exfalso;cases hl)
 |cons e es=>
  have h5:es.all noStar=true:=by rw[Vu,Uw]at h2;exact h2.2
  exact Ev.J8 m hT a b pl (gL h1) h3 (ru h2 h4) (cO h2) (dT h5).1
def z9{S:Sx}(R:Rel F ρ S g)(hs:S.st x=true)(d:D)(xs:List Str):∃i,d6 F i x/\x≠accN/\Rel F (ρ.set i (.val d)) (S.kZ [x]) (sj x d g):=by
 refine uA (R.H3 x hs) λhx i k=>?_;refine dG i k hx ⟨R.kind,R.sig,R.Fy,R.Lc,R.H3,by rw[length_set];exact R.len,λy hy=>?_⟩;have hi:i<ρ.length:=by rw[R.len];exact(SF.mp k.at_).1
 unfold sj;by_cases e:y=x
 ·(replace e:=V7 e;subst e)
  exact bH i k.at_ (by simp[hi])
 have HC:S.pO y=true:=by simp only[Sx.kZ,U0,contains_cons,contains_nil,Bool.or_false,VX]at hy;exact hy.resolve_right e
 refine ao (R.rd y HC) λj h1 h2=>?_;have Cc:j≠i:=λq=>by subst q;rw[k.at_]at h1;obtain rfl:=Option.some.inj h1;exact e rfl
 refine bH j h1 ?_;rw[Tq (V9 Cc),h2];have:(y==x)=false:=TH.mpr e;rw[this];rfl
def ym{S:Sx}:(S.kZ [x]).kZ xs=S.kZ (x::xs):=by unfold Sx.kZ;simp only[Sx.mk.injEq,true_and];funext y;simp[Bool.or_assoc]
def iQ:∀{ts:List Expr},(ts.all λt=>(nameOf t).isSome)=true->assignEach ts env=ts.map λt=>(false,assign t env):=by
 intro l';induction l' with
 |nil=>exact @λ_=>rfl
 |cons t ts aU=>exact @λh=>by simp only[Vu,Uw]at h;refine cu h λh1 h2=>?_;clear h;obtain⟨x,p,rfl⟩:=rE h1;rw[Vt,<-aU h2];rfl
theorem tQ:∀(ts:List Expr) (ds:List D) (ρ:RE) (S:Sx) (g:Gt),Rel F ρ S g->(ts.all λt=>(nameOf t).isSome)=true->((ts.filterMap nameOf).all λx=>S.st x)=true->ds.length=ts.length->
 ∃az,uy G F n ρ ts ds az/\Rel F az (S.kZ (ts.filterMap nameOf)) (bindL ts ds g)/\∀i:Nat,F.vars[i]? =some accN->az[i]? =ρ[i]?
 |[],ds,ρ,S,g,R,_,_,hl=>by have:ds=[]:=Sr hl;subst this;exact dG ρ uy.nil ⟨R.kind,R.sig,R.Fy,R.Lc,R.H3,R.len,λy hy=>R.rd y (by simpa[Sx.kZ]using hy)⟩ (λ_ _=>rfl)
 |t::ts,[],ρ,S,g,R,_,_,hl=>by simp at hl
 |t::ts,d::ds,ρ,S,g,R,h1,h2,hl=>by
  rw[Vu,Uw]at h1;obtain⟨x,p,rfl⟩:=rE h1.1;replace h2:(x::ts.filterMap nameOf).all (λx=>S.st x)=true:=h2;simp only[Vu,Uw]at h2;refine bq (z9 R h2.1 d []) λi k hx R1=>?_;refine bq (tQ ts ds _ _ _ R1 h1.2 h2.2 (by simpa using hl)) λaz a R2 hk=>?_;refine dG az (uy.cons (As.name i k) a) ?_ (λj hj=>?_)
  .rw[ym]at R2;exact R2
  rw[hk j hj];have Cc:j≠i:=λq=>by(replace q:=V7 q;subst q);rw[k.at_]at hj;obtain rfl:=Option.some.inj hj;exact hx rfl
  exact(Tq (V9 Cc))
def wW{S:Sx}{g:Gt}(R:Rel F ρ S g)(hs:yE S t=true)(hb:gS t d):∃az,As G F n ρ t d az/\Rel F az (S.bind t) (bindG t d g)/\∀i:Nat,F.vars[i]? =some accN->az[i]? =ρ[i]? :=by
 unfold yE at hs;rw[Uw]at hs;refine cu hs λh1 h2=>?_;clear hs;have h3:((lY t).all λx=>S.st x)=true:=UE.mpr λx hx=>by have:=UE.mp h2 x hx;simp only[Uw]at this;exact this.1
 rcases z0 h1 with⟨x,p,rfl⟩|⟨ts,j,p,rfl⟩
 .replace h3:[x].all (λx=>S.st x)=true:=h3;simp only[Vu,all_nil,Bool.and_true]at h3;refine bq (z9 R h3 d []) λi k hx R1=>?_;refine dG _ (As.name i k) R1 (λj hj=>?_);have Cc:j≠i:=λq=>by subst q;rw[k.at_]at hj;obtain rfl:=Option.some.inj hj;exact hx rfl
  exact(Tq (V9 Cc))
 induction d using D.casesOn with
 |tup ds=>
  refine bq (tQ (G:=G) (n:=n) ts ds ρ S g R h1 h3 hb) λaz a R2 hk=>?_;refine dG az (As.tup a ?_ ?_) R2 hk
  .rw[iQ h1,US];exact hb.symm
  rw[iQ h1];rw[findIdx?_map,findIdx?_eq_none_iff];intro x _;rfl
 |_=>exact(show False from hb).elim
def yn:∀{ds:List D} {g:Gt},y∉ts.filterMap nameOf->bindL ts ds g y=g y:=by
 induction ts with
 |nil=>intro ds g _;induction ds using List.casesOn<;>rfl
 |cons t ts ih=>
  intro ds g h;induction t using Expr.casesOn with
  |Name x p=>replace h:y∉x::ts.filterMap nameOf:=h;simp only[Vr,not_or]at h;refine(?_:bindL ts ds.tail (sj x (ds.headD .none) g) y=_);rw[ih h.2];unfold sj;rw[show(y==x)=false from TH.mpr h.1];rfl
  |_=>rfl
def yo{g:Gt}{y:Str}(h:y∉lY t):bindG t d g y=g y:=by
 induction t using Expr.casesOn with
 |Name x p=>replace h:y∉[x]:=h;simp only[TX]at h;refine(?_:sj x d g y=_);unfold sj;rw[show(y==x)=false from TH.mpr h];rfl
 |Tuple ts j p=>exact yn h
 |_=>rfl
def Rel.unbind{S:Sx}{g:Gt}(hs:yE S t=true)(R:Rel F ρ (S.bind t) (bindG t d g)):Rel F ρ S g:=by
 unfold yE at hs;rw[Uw]at hs;refine⟨R.kind,R.sig,R.Fy,R.Lc,R.H3,R.len,λy hy=>?_⟩;have hn:y∉lY t:=λq=>by have:=UE.mp hs.2 y q;rw[hy]at this;simp at this
 refine ao (R.rd y (by refine(?_:(S.pO y||_)=true);rw[hy];rfl)) λi h1 h2=>?_;rw[yo hn]at h2;exact bH i h1 h2
end
def qP:∀(names:List (Str×NameKind)) (acc:List (Str×Addr)),(∀x,(x,NameKind.free)∈names->(env.cells.lookup x).isSome=true)->∃cl,gZ env names acc=some cl:=by
 intro l';induction l' with
 |nil=>exact @λacc _=>⟨acc,rfl⟩
 |cons y' r aU=>
  obtain⟨n,k⟩:=y';exact @λacc h=>by
   rw[ot];by_cases hk:(k==NameKind.free)=true
   .rw[if_pos hk];have e8:k=NameKind.free:=by simpa using hk
    subst e8;refine aO (SM.mp (h n (.head _))) λc hc=>?_;rw[hc];exact aU _ λx hx=>h x (.tail _ hx)
   rw[if_neg hk];exact aU _ λx hx=>h x (.tail _ hx)
theorem jQ:∀(names:List (Str×NameKind)) (acc cl:List (Str×Addr)),gZ env names acc=some cl->(names.map (·.1)).Nodup->cl.lookup x=if(x,NameKind.free)∈names then env.cells.lookup x else acc.lookup x
 |[],acc,cl,h,_=>by obtain rfl:=Option.some.inj h;rfl
 |(n,k)::r,acc,cl,h,hn=>by
  rw[Vt,UZ]at hn;rw[ot]at h;by_cases hk:(k==NameKind.free)=true
  .rw[if_pos hk]at h;have e8:k=NameKind.free:=by simpa using hk
   subst e8;induction hc:env.cells.lookup n using Option.casesOn with
   |none=>rw[hc]at h;exact cG h
   |some c=>
    rw[hc]at h;have ih:=jQ (x:=x) r _ cl h hn.2;rw[ih];by_cases hx:x=n
    .subst hx;have:(x,NameKind.free)∉r:=λq=>hn.1 (VB.mpr ⟨_,q,rfl⟩);rw[if_neg this,if_pos Ub];simp[UL,hc]
    have hb:(x==n)=false:=TH.mpr hx;simp only[Vr,Prod.mk.injEq,hx,false_and,false_or,UL,hb]
  rw[if_neg hk]at h;have ih:=jQ (x:=x) r _ cl h hn.2;rw[ih];have:¬(x,NameKind.free)=(n,k):=λq=>by cases q;trivial
  simp only[Vr,this,false_or]
def vG:∀(names:List (Str×NameKind)) (m:Nat) (acc:List (Str×Addr)),(x,NameKind.cell)∉names->(cellsFrom m names acc).lookup x=acc.lookup x:=by
 intro l';induction l' with
 |nil=>exact @λ_ _ _=>rfl
 |cons y' r aU=>
  obtain⟨n,k⟩:=y';exact @λm acc h=>by
   unfold cellsFrom;by_cases hk:(k==NameKind.cell)=true
   .rw[if_pos hk];have e8:k=NameKind.cell:=by simpa using hk
    subst e8;rw[aU _ _ λq=>h (.tail _ q)];have hx:x≠n:=λq=>h (q▸ .head _);simp[UL,show(x==n)=false from TH.mpr hx]
   rw[if_neg hk];exact aU _ _ λq=>h (.tail _ q)
def ib:∀{names:List (Str×NameKind)},names.lookup x=some k->(x,k)∈names:=by
 intro l';induction l' with
 |nil=>exact @λh=>by trivial
 |cons y' r aU=>
  obtain⟨n,k'⟩:=y';exact @λh=>by
   simp only[UL]at h;split at h
   .rename_i e;obtain rfl:=Option.some.inj h;rw[VX.mp e];exact .head _
   exact .tail _ (aU h)
theorem jC:∀{names:List (Str×NameKind)},(names.map (·.1)).Nodup->(x,k)∈names->names.lookup x=some k
 |(n,k')::r,hn,h=>by
  rw[Vt,UZ]at hn;simp only[UL];rcases Vr.mp h with q|q
  .cases q;simp
  have:x≠n:=λe=>hn.1 (e▸VB.mpr ⟨_,q,rfl⟩);rw[show(x==n)=false from TH.mpr this];exact jC hn.2 q
theorem gA:∀(names:List (Str×NameKind)),(kP names σ).lookup x=(names.lookup x).map λk=>if(k==.free&&σ x==some .cell)then .cell else k
 |[]=>rfl
 |(n,k)::r=>by
  have ih:=gA (σ:=σ) (x:=x) r;refine(?_:List.lookup x ((if(k==NameKind.free&&σ n==some .cell)=true then(n,NameKind.cell)else(n,k))::kP r σ)=_);by_cases hx:x=n
  .subst hx;split<;>simp_all[UL]
  have hb:(x==n)=false:=TH.mpr hx;split<;>simp[UL,hb,ih]
section
variable{G:Gd}{F:Fx}{n:Nat}{ρ:RE}
noncomputable def yX(S:Sx)(g:Gt)(sc:Scope):RE:=sc.names.map λx=>if(S.inner sc).pO x.1 then .val (g x.1)else .no
theorem oE{S:Sx}{g:Gt}(R:Rel F ρ S g)(jc:gZ F.env sc.names []=some cl)(jW:(sc.names.map (·.1)).Nodup):
 ∀(names:List (Str×NameKind)),(∀x∈names,x∈sc.names)->Vs F (bz F sc cl vars) ρ (names.map (·.1)) (names.map λx=>if(S.inner sc).pO x.1 then Slot.val (g x.1)else Slot.no)
 |[],_=>.nil
 |(x,k)::r,h=>by
  have ih:=oE (vars:=vars) R jc jW r λy hy=>h y (.tail _ hy);rw[Vt,Vt];by_cases hd:(S.inner sc).pO x=true
  .rw[if_pos hd];simp only[Sx.inner,Uw,U0,VX]at hd;(refine cu hd λaB h3=>?_;obtain⟨h1,h2⟩:=aB);refine ao (R.rd x h3) λj h4 h5=>?_;refine .val j h4 h5 (λC=>⟨?_,?_,?_⟩) ih
   .have:(bz F sc cl vars C).env.kindOf x=(kP sc.names S.σ).lookup x:=by refine(?_:(relabel sc F.env).names.lookup x=_);unfold relabel kP;congr 1;apply TK;intro bx _;obtain⟨y,ky⟩:=bx;dsimp only;(refine Eq.substr R.kind ?_;refine Eq.substr (R.sig y) ?_);simp
    simp only[this,gA,h1];simp only[Option.map_some];split
    ·exact .inl rfl
    exact .inr rfl
   .rw[R.sig];exact h2
   have e1:(x,NameKind.cell)∉sc.names:=λq=>by rw[jC jW q]at h1;cases h1
   refine(?_:(cellsFrom (C+1) sc.names cl).lookup x=_);(refine V3 (vG _ _ _ e1) ?_;refine V3 (jQ _ _ _ jc jW) ?_;exact(if_pos (ib h1)))
  rw[if_neg hd];exact .no ih
def qE{S:Sx}{g:Gt}(R:Rel F ρ S g)(e9:mE S sc=true)(jc:gZ F.env sc.names []=some cl)(C l:Addr)(acc:D):
 Rel (bz F sc cl (sc.names.map (·.1)) C) (.own l acc::yX S g sc) (S.inner sc) g:=by
 unfold mE at e9;simp only[Uw,VX,Ue,Un,Tx,SN]at e9;(refine cu e9 λaB h5=>?_;obtain⟨⟨⟨h1,h2⟩,h3⟩,h4⟩:=aB);have hk:∀x,(bz F sc cl (sc.names.map (·.1)) C).env.kindOf x=(kP sc.names S.σ).lookup x:=λx=>by refine(?_:(relabel sc F.env).names.lookup x=_);unfold relabel kP;congr 1;apply TK;intro bx _;obtain⟨y,ky⟩:=bx;dsimp only;(refine Eq.substr R.kind ?_;refine Eq.substr (R.sig y) ?_);simp
 have Jd:(accN::sc.names.map (·.1)).Nodup:=UZ.mpr ⟨h5,h2⟩;refine⟨h1,hk,λx hx=>?_,Jd,λx hx=>?_,?_,λx hx=>?_⟩
 .refine(?_:((cellsFrom (C+1) sc.names cl).lookup x).isSome=true);have w6:(kP sc.names S.σ).lookup x=some .cell\/(kP sc.names S.σ).lookup x=some .free:=hx;rw[gA]at w6;induction e:sc.names.lookup x using Option.casesOn with
  |none=>rw[e]at w6;simp at w6
  |some k=>
   by_cases Ik:k=.cell
   .subst Ik;exact Vo _ _ _ (.inl e)
   by_cases OL:k=.free
   .subst OL;refine Vo _ _ _ (.inr ?_);rw[jQ _ _ _ jc h2,if_pos (ib e)];have:=UE.mp h4 _ (ib e);simp only[Uu,Bool.false_or,U0,VX]at this;exact R.Fy x this
   rw[e]at w6;simp[OL,Ik]at w6
 .simp only[Sx.inner,Uw,V2,ne_eq,U0,VX]at hx;refine⟨hx.1,?_⟩;have hm:x∈accN::sc.names.map (·.1):=by rcases hx.2 with q|q<;>exact .tail _ (VB.mpr ⟨_,ib q,rfl⟩)
  refine aO (mem_iff_getElem?.mp hm) λi hi=>?_;refine⟨i,hi,d6.kg Jd hi,?_⟩;rcases hx.2 with q|q
  .left;simp only[hk,gA,q];rfl
  right;refine⟨by simp only[hk,gA,q];rfl,?_⟩;refine aO (SM.mp (Vo (x:=x) sc.names (C+1) cl (.inl q))) λc hc=>?_;refine bH c hc ?_;rcases gW _ _ _ (mem_of_lookup hc)with z|z
  .have:=((lG _ _ _ jc x c z).resolve_left (by simp)).2;rw[jC h2 this]at q;(exfalso;cases q)
  exact z
 .simp[bz,yX]
 have w6:=hx;simp only[Sx.inner,Uw,U0,VX]at hx;refine aO (mem_iff_getElem?.mp (ib hx.1.1)) λi hi=>?_;refine bH (i+1) ?_ ?_
 .simp[bz,hi]
 simp only[getElem?_cons_succ,yX,Uc,hi,Option.map_some];rw[if_pos w6]
def Lp.outs(outs:D->List D)(K:RE->Prop)(pre:List D)(hz:pre.length+(ds.flatMap outs).length<=sizeLine)(h0:K gN)
 (step:∀(acc:List D) (d:D) (my:RE),d∈ds->acc.length+(outs d).length<=sizeLine->K my->∃iW b,As G F n (.own l (.list acc)::my) t d (.own l (.list acc)::iW)/\lX G F n (.own l (.list acc)::iW) ifs b/\
  (b=true->Em G F n (.own l (.list acc)::iW) inner (λaz=>∃Hr,K Hr/\az=.own l (.list (acc++outs d))::Hr))/\(b=false->outs d=[]/\K iW)):
 Lp G F n (.own l (.list pre)::gN) t ifs inner ds (λaz=>∃gi,K gi/\az=.own l (.list (pre++ds.flatMap outs))::gi) where
 ex:=⟨λi az=>∃gi,K gi/\az=.own l (.list (pre++(ds.take i).flatMap outs))::gi,⟨gN,h0,by simp⟩,λi d az hd m8=>ao m8 λmy hk ur=>by
  subst ur;have ht:ds.take (i+1)=ds.take i++[d]:=by rw[Ug,hd];rfl
  have hlen:((ds.take (i+1)).flatMap outs).length<=(ds.flatMap outs).length:=by
   conv=>rhs;rw[<-Ti (i+1) ds,TM,TU]
   exact UB _ _
  rw[ht,TM,TU]at hlen;simp only[Um,flatMap_nil,UX]at hlen;refine dw (step (pre++(ds.take i).flatMap outs) d my (To hd) (by rw[TU];lia) hk) λiW b h1 h2 h3 h4=>?_;refine f6 _ b h1 h2 (λhb=>(h3 hb).mono λaz w5=>ao w5 λHr k4 e=>⟨Hr,k4,?_⟩) (λhb=>⟨iW,(h4 hb).2,?_⟩)
  ·(refine V3 e ?_;refine Eq.substr ht ?_;refine Eq.substr TM ?_;rw[<-Uh]);simp
  .rw[ht,TM,<-Uh];simp[(h4 hb).1],λaz yH=>ao yH λgi hk ur=>⟨gi,hk,by rw[ur,UA]⟩⟩
noncomputable def wF(elt:Expr)(um:List Comprehension)(sc:Scope)(pos:Pos)(depth:Nat)(acc:Value)(env:Env):List Comprehension->Sem Unit
 |[]=>do let _<-call (.builtin "list.append") [acc,<-eval elt env]
 |⟨_,o7,_,_⟩::_=>do
  let x<-eval o7 env
  standAt o7.pos
  let x<-foldedSetIterable o7 env x;let _<-runOwn (.compStart (.ListComp elt um sc pos) (depth+1) (<-holding [x] (pyIter x)) acc env) env
def v9(h1:um[depth]? =some ⟨t,it,ifs,0⟩)(h2:um.drop (depth+1)=rest)(h3:∀c∈rest.head?,c.is_async=0):
 iK (.ListComp elt um sc pos) depth acc env t ifs (wF elt um sc pos depth acc env rest):=by
 induction rest using List.casesOn with
 |nil=>
  refine qg h1 ?_;have:=V4 head? h2
  rwa [head?_drop]at this
 |cons c r=>
  obtain⟨t2,o7,ka,a⟩:=c;have ha:a=0:=h3 ⟨t2,o7,ka,a⟩ rfl;subst ha;refine vm h1 (wb:=t2) (I0:=ka) ?_;have:=V4 head? h2
  rwa [head?_drop]at this
end
section
variable{G:Gd}{n:Nat}{L:jX}
noncomputable abbrev yQ(G:Gd)(n:Nat)(L:jX)(f:Nat):Prop:=∀(S:Sx) (g:Gt) (e:Expr) (F:Fx) (ρ:RE),a8 f false S e=true->(so L f).val S g e->Rel F ρ S g->∀k,Ev G F n ρ k e ((sm L f).val S g e)
noncomputable abbrev Cp(G:Gd)(n:Nat)(L:jX)(f:Nat):Prop:=∀(S:Sx) (g:Gt) (e:Expr) (F:Fx) (ρ:RE),a8 f true S e=true->(so L f).lQ S g e->Rel F ρ S g->cv G F n ρ e ((sm L f).lQ S g e)
def om(iv:yQ G n L f){S:Sx}(R:Rel F ρ S g)(k:Bool):∀(es:List Expr),es.all noStar=true->es.all (a8 f false S)=true->kR (so L f) S g es->b8 G F n ρ k es (es.map ((sm L f).val S g)):=by
 intro l';induction l' with
 |nil=>exact @λ_ _ _=>b8.nil
 |cons e es aU=>exact @λh1 h2 h3=>by rw[Vu,Uw]at h2;have LA:=h1;rw[Vu,Uw]at LA;exact b8.cons (iv S g e F ρ h2.1 h3.1 R k) (aU LA.2 h2.2 h3.2) (cO h1)
def Ai(it:Cp G n L f){S:Sx}(R:Rel F ρ S g)(h1:sE (a8 f) S ifs=true)(h2:zq (so L f) S g ifs):lX G F n ρ ifs (yY (sm L f) S g ifs):=by
 match ifs,h1,h2 with
 |[],_,_=>exact lX.nil
 |[c],h1,h2=>exact lX.one (it S g c F ρ h1 h2 R)
 |_::_::_,h1,_=>exact fR h1
def uc(h:og e=some (f,args)):sP f=true/\∃p pos,e=.Call (.Name f p) args [] pos:=by
 induction e using Expr.casesOn with
 |Call fe as ks pos=>
  induction fe using Expr.casesOn with
  |Name x p=>
   induction ks using List.casesOn with
   |nil=>
    have h:(if sP x then some (x,as)else none)=some (f,args):=h;by_cases hf:sP x=true
    .rw[if_pos hf]at h;cases h;exact⟨hf,_,_,rfl⟩
    rw[if_neg hf]at h;exact cG h
   |cons _ _=>exact cG h
  |_=>exact cG h
 |_=>exact cG h
def rq(W:Wd G)(iv:yQ G n L f){S:Sx}(R:Rel F ρ S g)(h1:mD (a8 f) S e=true)(h2:n6 (sm L f) (so L f) S g t e):ef G F n ρ false t e (kJ (sm L f) S g e):=by
 unfold mD at h1;unfold n6 at h2;unfold kJ;induction hn:og e using Option.casesOn with
 |none=>rw[hn]at h1 h2;simp only[Uw]at h1;exact ef.of (iv S g e F ρ h1.2 h2.1 R false) (G3 _ h2.2)
 |some fa=>
  obtain⟨fn,args⟩:=fa;rw[hn]at h1 h2;obtain⟨hf,p,pos,rfl⟩:=uc hn;simp only[Uw,Un,VX]at h1;obtain⟨⟨⟨g1,g2⟩,g3⟩,g4⟩:=h1;obtain⟨o1,o2⟩:=h2;have hk:F.env.kindOf fn=some .globalImplicit:=by rw[R.sig];exact g4
  have al:=om iv R false args g2 g3 o1;induction args using List.casesOn with
  |nil=>exact Ht g1
  |cons a as=>
   have g5:as.all noStar=true:=by rw[Vu,Uw]at g2;exact g2.2
   dsimp only;generalize(a::as).map ((sm L f).val S g)=ds at al o2⊢;revert ds;refine nz ?_;intro ds;intro;intro;unfold i6 at o2;unfold kC;by_cases e1:(fn==Mine.S "range")=true
   .rw[if_pos e1]at o2⊢;have:fn=Mine.S "range":=by simpa using e1
    subst this;induction ds using List.casesOn with
    |nil=>exact o2.elim
    |cons x ds=>
     induction ds using List.casesOn with
     |nil=>obtain⟨b,rfl,o2⟩:=eB o2;exact ef.range W.range hk al pr_1 o2 rfl (cO g2) (dT g5).1
     |cons y ds=>
      induction ds using List.casesOn with
      |nil=>obtain⟨a,rfl,o2⟩:=eB o2;obtain⟨b,rfl,o2⟩:=eB o2;exact ef.range W.range hk al pr_2 o2 rfl (cO g2) (dT g5).1
      |cons z ds=>exact o2.elim
   rw[if_neg e1]at o2⊢;have tup:Ag t=true->∃ts j tp,t=.Tuple ts j tp:=λh=>by induction t using Expr.casesOn<;>first|exact⟨_,_,_,rfl⟩|exact fR h
   by_cases e2:(fn==Mine.S "zip")=true
   .rw[if_pos e2]at o2⊢;have:fn=Mine.S "zip":=by simpa using e2
    subst this;obtain⟨ht,o2⟩:=o2;obtain⟨ts,j,tp,rfl⟩:=tup ht;obtain⟨x,y,rfl,o2⟩:=n9 o2;obtain⟨xs,rfl,o2⟩:=l5 o2;obtain⟨ys,rfl,o2⟩:=l5 o2;exact ef.vY W.zip hk al G0 (cO g2) (dT g5).1 (by assumption)
   rw[if_neg e2]at o2⊢;have:fn=Mine.S "enumerate":=by
    unfold sP at hf;simp only[U0]at hf;rcases hf with(q|q)|q
    .exact absurd q e1
    .exact absurd q e2
    simpa using q
   subst this;obtain⟨ht,o2⟩:=o2;obtain⟨ts,j,tp,rfl⟩:=tup ht;obtain⟨x,rfl,o2⟩:=lZ o2;obtain⟨xs,rfl,o2⟩:=l5 o2;exact ef.vY W.enumerate hk al Ds (cO g2) (dT g5).1 (by assumption)
def Rel.head{S:Sx}(R:Rel F (.own l a::gi) S g):Rel F (.own l b::gi) S g:=
 ⟨R.kind,R.sig,R.Fy,R.Lc,R.H3,R.len,λx hx=>by
  obtain⟨i,h1,h2⟩:=R.rd x hx;refine⟨i,h1,?_⟩;induction i using Nat.casesAuxOn with
  |zero=>simp at h2
  |succ i=>exact h2⟩
def tA{S:Sx}(h:D->List D)(ds:List D):(Ft r S t g ifs ds).flatMap h=ds.flatMap λd=>if yY r S (bindG t d g) ifs=true then h d else[]:=by
 induction ifs using List.casesOn with
 |nil=>rfl
 |cons c cs=>
  refine(?_:(ds.filter λd=>r.lQ S (bindG t d g) c).flatMap h=ds.flatMap λd=>if r.lQ S (bindG t d g) c=true then h d else[]);induction ds with
  |nil=>rfl
  |cons d ds ih=>
   rw[Uy];by_cases hc:r.lQ S (bindG t d g) c=true
   .simp[hc,ih]
   simp[hc,ih]
def DE{S:Sx}(h:D->D)(ds:List D):(Ft r S t g ifs ds).map h=ds.flatMap λd=>if yY r S (bindG t d g) ifs=true then[h d]else[]:=by
 rw[<-tA (λd=>[h d])];generalize Ft r S t g ifs ds=xs;revert xs;refine nz ?_;intro xs;induction xs with
 |nil=>rfl
 |cons x xs ih=>exact V4 _ ‹_›
def tP(hF:F.vars=accN::vars){S:Sx}(R:Rel F (.own l (.list acc)::my) S g)(hs:yE S t=true)(hb:gS t d):∃iW,As G F n (.own l (.list acc)::my) t d (.own l (.list acc)::iW)/\Rel F (.own l (.list acc)::iW) (S.bind t) (bindG t d g):=by
 obtain⟨az,a,R',hk⟩:=wW (G:=G) (n:=n) R hs hb;have h0:=hk 0 (by rw[hF];rfl);induction az using List.casesOn with
 |nil=>trivial
 |cons x xs=>simp at h0;subst h0;exact⟨xs,a,R'⟩
def GG(W:Wd G)(iv:yQ G n L f)(it:Cp G n L f)(elt:Expr)(um:List Comprehension)(sc:Scope)(pos:Pos)(hF:F.vars=accN::vars)(l:Addr):
 ∀(rest:List Comprehension) (depth:Nat) (t bM:Expr) (ifs:List Expr) (S:Sx) (g:Gt) (ds pre:List D) (gN:RE),um[depth]? =some ⟨t,bM,ifs,0⟩->um.drop (depth+1)=rest->
 nK (a8 f) elt rest S t ifs=true->uO (sm L f) (so L f) elt rest S g t ifs ds->Rel F (.own l (.list pre)::gN) S g->pre.length+(rf (sm L f) elt rest S g t ifs ds).length<=sizeLine->
 Lp G F n (.own l (.list pre)::gN) t ifs (wF elt um sc pos depth (.ref l) F.env rest) ds (λaz=>∃gi,(∀a,Rel F (.own l a::gi) S g)/\az=.own l (.list (pre++rf (sm L f) elt rest S g t ifs ds))::gi):=by
 intro rest;induction rest with
 |nil=>
  intro depth t bM ifs S g ds pre gN h1 h2 hs ho R hz;simp only[CY,Uw]at hs;refine cu hs λhs s3=>?_;refine cu hs λs1 s2=>?_;clear hs;simp only[GH]at hz⊢;rw[DE]at hz⊢;refine Lp.outs _ (λgi=>∀a,Rel F (.own l a::gi) S g) pre hz (λa=>R.head) λacc d my hd HB hK=>?_;refine dW (ho d hd) λo1 o2 o3=>?_;refine ao (tP (G:=G) (n:=n) hF (hK (.list acc)) s1 o1) λiW a R'=>?_;refine⟨iW,_,a,Ai it R' s2 o2,λhb=>?_,λhb=>?_⟩
  .refine(Em.emit (x:=accN) (i:=0) (by rw[hF];rfl) rfl (iv _ _ _ _ _ s3 (o3 hb) R' false) (by exact le_of_add_right_le HB)).mono λkG ur=>⟨iW,λa=>(R'.unbind s1).head,?_⟩;rw[ur,if_pos hb];rfl
  exact⟨by rw[hb];rfl,λa=>(R'.unbind s1).head⟩
 |cons c rest ih=>
  obtain⟨t2,o7,ka,a2⟩:=c;intro depth t bM ifs S g ds pre gN h1 h2 hs ho R hz;simp only[rC,Uw,VX]at hs;obtain⟨⟨⟨⟨⟨sa,s1⟩,s2⟩,s3⟩,s4⟩,s5⟩:=hs;subst sa;simp only[GI]at hz⊢;rw[tA]at hz⊢;refine Lp.outs _ (λgi=>∀a,Rel F (.own l a::gi) S g) pre hz (λa=>R.head) λacc d my hd HB hK=>?_;refine dW (ho d hd) λo1 o2 o3=>?_;refine ao (tP (G:=G) (n:=n) hF (hK (.list acc)) s1 o1) λiW a R'=>?_;refine⟨iW,_,a,Ai it R' s2 o2,λhb=>?_,λhb=>?_⟩
  .obtain⟨o4,o5⟩:=o3 hb;rw[if_pos hb]at HB;have hg:um[depth+ 1]? =some ⟨t2,o7,ka,0⟩:=by
    have:=V4 head? h2
    rwa [head?_drop]at this
   have yy:um.drop (depth+1+1)=rest:=by rw[<-drop_drop,h2];rfl
   have lp:=ih (depth+1) t2 o7 ka (S.bind t) (bindG t d g) (kJ (sm L f) (S.bind t) (bindG t d g) o7) acc iW hg yy s5 o5 R' HB;have MA:∀c∈rest.head?,c.is_async=0:=λc hc=>by
    induction rest using List.casesOn with
    |nil=>trivial
    |cons c' r'=>simp at hc;subst hc;obtain⟨t3,P0,Nh,a3⟩:=c';simp only[rC,Uw,VX]at s5;exact s5.1.1.1.1.1
   refine(Em.inner hg (rq W iv R' s3 o4) (v9 hg yy MA) lp (λx=>jL s4)).mono λkG m8=>ao m8 λHr hr e=>⟨Hr,λa=>((hr a).unbind s1),?_⟩;rw[e,if_pos hb]
  exact⟨by rw[hb];rfl,λa=>(R'.unbind s1).head⟩
def wR(W:Wd G)(iv:yQ G n L f)(it:Cp G n L f){F:Fx}{S:Sx}(R:Rel F ρ S g)
 (h1:a8 (f+1) false S (.ListComp elt (⟨t,bM,ifs,a⟩::rest) sc pos)=true)(h2:(so L (f+1)).val S g (.ListComp elt (⟨t,bM,ifs,a⟩::rest) sc pos)):
 a=0/\bw G F n ρ (.ListComp elt (⟨t,bM,ifs,0⟩::rest) sc pos) (newList []) t bM rest sc (.list (rf (sm L f) elt rest (S.inner sc) g t ifs (kJ (sm L f) S g bM))):=by
 have h1:(a==0&&gk bM&&mD (a8 f) S bM&&mE S sc&&nK (a8 f) elt rest (S.inner sc) t ifs)=true:=h1;simp only[Uw,VX]at h1;obtain⟨⟨⟨⟨ha,s1⟩,s2⟩,s3⟩,s4⟩:=h1;subst ha;refine⟨rfl,?_⟩;obtain⟨o1,o2,o3⟩:=h2;have L4:=s3;unfold mE at s3;simp only[Uw,VX,Ue,Un,Tx,SN]at s3;obtain⟨⟨⟨⟨c1,c2⟩,c3⟩,c4⟩,c5⟩:=s3;obtain⟨cl,jc⟩:=qP (env:=F.env) sc.names [] λx hx=>by have:=UE.mp c4 _ hx;simp only[Uu,Bool.false_or,U0,VX]at this;exact R.Fy x this
 have MA:∀c∈rest.head?,c.is_async=0:=λc hc=>by
  induction rest using List.casesOn with
  |nil=>trivial
  |cons c' r'=>simp at hc;subst hc;obtain⟨t3,P0,Nh,a3⟩:=c';simp only[rC,Uw,VX]at s4;exact s4.1.1.1.1.1
 refine bw.list (cl:=cl) (sc.names.map (·.1)) (rq W iv R s2 o1) (oE R jc c2 sc.names λ_ h=>h) (λC l=>v9 (um:=⟨t,bM,ifs,0⟩::rest) rfl rfl MA) (λC l=>?_) (λx=>jL s1) jc c2 c1 (λx hx hl=>?_)
 .have lp:=GG W iv it elt (⟨t,bM,ifs,0⟩::rest) sc pos (F:=bz F sc cl (sc.names.map (·.1)) C) rfl l rest 0 t bM ifs (S.inner sc) g (kJ (sm L f) S g bM) [] (yX S g sc) rfl rfl s4 o2 (qE R L4 jc C l _) (by simpa using o3);refine lp.mono λaz w5=>ao w5 λgi _ e=>⟨gi,by rw[e];rfl⟩
 have:=UE.mp c3 x hx;rw[hl]at this;simpa using this
def Aq(iv:yQ G n L f){S:Sx}(R:Rel F ρ S g)(h1:e.all (a8 f false S)=true)(h2:zp (so L f) S g e)(h3:Fb (e.map ((sm L f).val S g))):nG G F n ρ e (oi (e.map ((sm L f).val S g))):=by
 induction e using Option.casesOn with
 |none=>exact nG.nil
 |some e=>have:=iv S g e F ρ h1 h2 R true;simp only[Option.map_some]at h3⊢;generalize(sm L f).val S g e=d at*;induction d using D.casesOn<;>first|exact h3.elim|exact nG.num this
theorem wO(iv:yQ G n L f){S:Sx}(R:Rel F ρ S g)(k:Bool):∀(ks:List (Option Expr)) (vs:List Expr),(ks.all (λk=>match k with|some e=>a8 f false S e|none=>false))=true->vs.all (a8 f false S)=true->ks.length=vs.length->uP (sm L f) (so L f) S g ks vs->
 B3 G F n ρ k ks vs (sU (sm L f) S g ks vs)
 |[],[],_,_,_,_=>.nil
 |[],_::_,_,_,h,_=>by trivial
 |_::_,[],_,_,h,_=>by trivial
 |none::ks,v::vs,h,_,_,_=>by trivial
 |some e::ks,v::vs,h1,h2,h3,h4=>by rw[Vu,Uw]at h1 h2;obtain⟨o1,o2,o3,o4⟩:=h4;have r:=wO iv R k ks vs h1.2 h2.2 (by simpa using h3) o4;have a:=iv S g e F ρ h1.1 o1 R true;have b:=iv S g v F ρ h2.1 o3 R k;refine(?_:B3 G F n ρ k _ _ ((je ((sm L f).val S g e),(sm L f).val S g v)::sU (sm L f) S g ks vs));generalize(sm L f).val S g e=d at*;induction d using D.casesOn<;>first|exact o2.elim|exact .cons a b r
def pH(h:oD args=some q):args=[.Call (.Attribute q.1 q.2.1 q.2.2.1) [] [] q.2.2.2]:=by
 induction args using List.casesOn with
 |nil=>exact cG h
 |cons e r=>
  induction e using Expr.casesOn with
  |Call fe as ks pos=>
   induction fe using Expr.casesOn with
   |Attribute o m p=>
    induction as using List.casesOn with
    |cons _ _=>exact cG h
    |nil=>
     induction ks using List.casesOn with
     |cons _ _=>exact cG h
     |nil=>
      induction r using List.casesOn with
      |cons _ _=>exact cG h
      |nil=>exact(Option.some.inj h)▸rfl
   |_=>exact cG h
  |_=>exact cG h
def rR(h:eu g args=some (o,apos,pos)):g=Str.ofString "list"/\args=[.Call (.Attribute o (Str.ofString "items") apos) [] [] pos]:=by
 unfold eu at h;induction he:oD args using Option.casesOn with
 |none=>rw[he]at h;exact cG h
 |some q=>
  obtain⟨o',m,KV,pos'⟩:=q;rw[he]at h;have h:(if(g==Mine.S "list"&&m==Mine.S "items")=true then some (o',KV,pos')else none)=some (o,apos,pos):=h;by_cases hc:(g==Mine.S "list"&&m==Mine.S "items")=true
  .rw[if_pos hc]at h
   cases h;simp only[Uw,VX]at hc;refine⟨hc.1,?_⟩;(refine V3 (pH he) ?_;refine Eq.substr hc.2 ?_);rfl
  rw[if_neg hc]at h;exact cG h
end
section
variable{G:Gd}{n:Nat}{L:jX}
def AY(it:Cp G n L f){S:Sx}(R:Rel F ρ S g):∀(es:List Expr),es.all (a8 f true S)=true->zr (sm L f) (so L f) S g es->cv G F n ρ (.BoolOp .And es p) (es.all ((sm L f).lQ S g)):=by
 intro l';induction l' with
 |nil=>exact @λ_ _=>cv.and_nil
 |cons e es aU=>exact @λh1 h2=>by rw[Vu,Uw]at h1;exact cv.and_cons (it S g e F ρ h1.1 h2.1 R) λhb=>aU h1.2 (h2.2 hb)
def C9(it:Cp G n L f){S:Sx}(R:Rel F ρ S g):∀(es:List Expr),es.all (a8 f true S)=true->FI (sm L f) (so L f) S g es->cv G F n ρ (.BoolOp .Or es p) (es.any ((sm L f).lQ S g)):=by
 intro l';induction l' with
 |nil=>exact @λ_ _=>cv.or_nil
 |cons e es aU=>exact @λh1 h2=>by rw[Vu,Uw]at h1;exact cv.or_cons (it S g e F ρ h1.1 h2.1 R) λhb=>aU h1.2 (h2.2 hb)
def Ev.a9(h:Ev G F n ρ k a d)(ho:dz d):Ev G F n ρ k (.UnaryOp .USub a p) (Mine.a9 d):=by induction d using D.casesOn<;>first|exact ho.elim|exact Ev.un h Eh
def Ev.Ni(h:∀k,Ev G F n ρ k v d)(h':∀k,Ev G F n ρ k i e)(hs:jJ i=true)(ho:ax d e):Ev G F n ρ k (.Subscript v i p) (idx d e):=by
 induction d using D.casesOn with
 |list ds=>obtain⟨j,rfl,ho⟩:=eB (p:=Fc ds) ho;exact Ev.zw (h k) (h' k) (show At _ _ (ke _ _ D.none)from rJ _ ho) (nZ hs)
 |tup ds=>obtain⟨j,rfl,ho⟩:=eB (p:=Fc ds) ho;exact Ev.Es (h k) (h' k) (show At _ _ (ke _ _ D.none)from rJ _ ho) (nZ hs)
 |str x=>obtain⟨j,rfl,ho⟩:=eB (p:=Fc x.cps.toList) ho;exact Ev.mK (h true) (h' true) (rJ 0 ho) (nZ hs)
 |aG aH=>obtain⟨j,rfl,ho⟩:=eB (p:=λi=>(look aH i).isSome=true) ho;exact Ev.Kh (h k) (h' true) (qz ho) (nZ hs)
 |cF aH=>obtain⟨j,rfl,ho⟩:=uU (p:=λi=>(look aH i).isSome=true) ho;exact Ev.GY (h k) (h' true) (qz ho) (nZ hs)
 |_=>exact ho.elim
def Au{S:Sx}(hs:a8 (f+1) b S (.Compare l ops xs p)=true):∃op x,ops=[op]/\xs=[x]:=by
 induction b using Bool.casesOn<;>induction ops using List.casesOn with
 |nil=>exact fR hs
 |cons op ops=>
  induction ops using List.casesOn with
  |cons _ _=>exact fR hs
  |nil=>
   induction xs using List.casesOn with
   |nil=>exact fR hs
   |cons x xs=>induction xs using List.casesOn<;>first|exact fR hs|exact⟨_,_,rfl,rfl⟩
def AB(W:i8 G n L)(iv:yQ G n L f)(it:Cp G n L f):yQ G n L (f+1):=by
 intro S g e F ρ hs ho R k;induction e using Expr.casesOn with
 |Constant c j p=>
  induction c using Const.casesOn with
  |int i=>exact Ev.cw
  |str i=>exact Ev.IL
  |bool i=>exact Ev.KR
  |none=>exact Ev.Ej
  |_=>exact fR hs
 |Name x p=>
  have cb:(x !=gU&&x !=rv&&(S.pO x||S.σ x==some .globalImplicit))=true:=hs;simp only[Uw,U0,V2,ne_eq,VX]at cb;refine(?_:Ev G F n ρ k _ (if S.pO x=true then g x else L.glob x));have hd:(x==gU)=false:=TH.mpr cb.1.1;by_cases hx:S.pO x=true
  .rw[if_pos hx];obtain⟨i,h1,h2⟩:=R.rd x hx;exact Ev.name i h1 h2 hd (TH.mpr cb.1.2)
  rw[if_neg hx];have iu:(match S.pO x with|true=>True|false=>L.l6 x):=ho;have w6:S.pO x=false:=by simpa using hx
  rw[w6]at iu;exact W.glob x iu F ρ k p (by rw[R.sig];exact cb.2.resolve_left hx) hd
 |BinOp a op b p=>have cb:(a8 f false S a&&a8 f false S b)=true:=hs;simp only[Uw]at cb;exact Ev.bin (iv S g a F ρ cb.1 ho.1 R k) (iv S g b F ρ cb.2 ho.2.1 R k) (AX _ _ _ ho.2.2)
 |UnaryOp op a p=>
  induction op using UnaryOp.casesOn with
  |USub=>exact Ev.a9 (iv S g a F ρ hs ho.1 R k) ho.2
  |_=>exact fR hs
 |Compare l ops xs p=>(refine d4 (Au hs) λop x e1 e2=>?_;subst e1 e2);have cb:(gk x&&a8 f false S l&&a8 f false S x)=true:=hs;simp only[Uw]at cb;exact Ev.cmp (iv S g l F ρ cb.1.2 ho.1 R true) (iv S g x F ρ cb.2 ho.2.1 R true) (wV _ _ _ ho.2.2) (tq cb.1.1)
 |BoolOp op es p=>
  induction op using BoolOp.casesOn with
  |Or=>induction es using List.casesOn<;>exact fR hs
  |And=>
   match es,hs,ho with
   |[x],hs,ho=>exact Ev.JH (iv S g x F ρ hs ho R k)
   |x::y::r,hs,ho=>
    have cb:(a8 f false S x&&a8 f false S (.BoolOp .And (y::r) p))=true:=hs;simp only[Uw]at cb;refine(?_:Ev G F n ρ k _ (if tr ((sm L f).val S g x)=true then(sm L f).val S g (.BoolOp .And (y::r) p)else(sm L f).val S g x));refine Ev.NU (iv S g x F ρ cb.1 ho.1 R k) (D8 _ ho.2.1) (λh=>?_) (λh=>?_)
    .rw[if_pos h];exact iv S g _ F ρ cb.2 (ho.2.2 h) R k
    rw[if_neg (by rw[h];decide)]
 |IfExp t a b p=>have cb:(a8 f true S t&&a8 f false S a&&a8 f false S b)=true:=hs;simp only[Uw]at cb;exact Ev.CO (it S g t F ρ cb.1.1 ho.1 R) (λh=>iv S g a F ρ cb.1.2 (ho.2.1 h) R k) λh=>iv S g b F ρ cb.2 (ho.2.2 h) R k
 |Tuple es j p=>have cb:(es.all noStar&&es.all (a8 f false S))=true:=hs;simp only[Uw]at cb;exact Ev.tup (om iv R k es cb.1 cb.2 ho.1) (by rw[US];exact ho.2)
 |List es p=>have cb:(es.all noStar&&es.all (a8 f false S))=true:=hs;simp only[Uw]at cb;exact Ev.list (om iv R k es cb.1 cb.2 ho.1) (by rw[US];exact ho.2)
 |Dict ks vs p=>
  have cb:(ks.all (λk=>match k with|some e=>a8 f false S e|none=>false)&&vs.all (a8 f false S)&&ks.length==vs.length&&decide (ks.length<=15))=true:=hs;simp only[Uw,VX,Ue]at cb;obtain⟨⟨⟨h1,h2⟩,h3⟩,h4⟩:=cb;induction ks using List.casesOn with
  |nil=>
   induction vs using List.casesOn with
   |nil=>exact mB.vX.ev
   |cons v vs=>trivial
  |cons c ks=>exact(mB.dict (wO iv R false _ _ h1 h2 h3 ho.1) ho.2 (by simp) h4).ev
 |Subscript v i p=>
  by_cases hi:jJ i=true
  .have k3:(jJ i&&a8 f false S v&&a8 f false S i)=true/\((so L f).val S g v/\(so L f).val S g i/\ax ((sm L f).val S g v) ((sm L f).val S g i))/\(sm L (f+1)).val S g (.Subscript v i p)=idx ((sm L f).val S g v) ((sm L f).val S g i):=by induction i using Expr.casesOn<;>first|exact⟨hs,ho,rfl⟩|exact fR hi
   obtain⟨cb,iu,hv⟩:=k3;simp only[Uw]at cb;rw[hv];exact Ev.Ni (iv S g v F ρ cb.1.2 iu.1 R) (iv S g i F ρ cb.2 iu.2.1 R) hi iu.2.2
  obtain⟨lo,Ip,eG,q,rfl⟩:=AL hi;induction eG using Option.casesOn with
  |some z=>exact fR hs
  |none=>have cb:(a8 f false S v&&lo.all (a8 f false S)&&Ip.all (a8 f false S))=true:=hs;simp only[Uw]at cb;obtain⟨o1,o2,o3,o4⟩:=ho;obtain⟨p1,p2,p3⟩:=Gz (G:=G) (n:=n) _ _ _ o4;exact Ev.slice (iv S g v F ρ cb.1.1 o1 R k) (Aq iv R cb.1.2 o2 p1) (Aq iv R cb.2 o3 p2) p3
 |Call fn args PY p=>
  induction PY using List.casesOn with
  |cons a b=>induction fn using Expr.casesOn<;>exact fR hs
  |nil=>
   induction fn using Expr.casesOn with
   |Name x q=>
    induction hi:eu x args using Option.casesOn with
    |some PK=>
     obtain⟨o,apos,pos⟩:=PK;obtain⟨rfl,rfl⟩:=rR hi;have cb:(match eu (Str.ofString "list") [.Call (.Attribute o (Str.ofString "items") apos) [] [] pos]with
      |some (o,apos,pos)=>S.σ (Str.ofString "list")==some .globalImplicit&&iD o&&a8 f false S o&&apos.endLine==pos.line
      |none=>S.σ (Str.ofString "list")==some .globalImplicit&&(Str.ofString "list") !=gU&& !([.Call (.Attribute o (Str.ofString "items") apos) [] [] pos]:List Expr).isEmpty&&([.Call (.Attribute o (Str.ofString "items") apos) [] [] pos]:List Expr).all noStar&&([.Call (.Attribute o (Str.ofString "items") apos) [] [] pos]:List Expr).all (a8 f false S))=true:=hs
     have iu:(match eu (Str.ofString "list") [.Call (.Attribute o (Str.ofString "items") apos) [] [] pos]with
      |some (o,_,_)=>(so L f).val S g o/\k8 ((sm L f).val S g o)
      |none=>kR (so L f) S g [.Call (.Attribute o (Str.ofString "items") apos) [] [] pos]/\L.bJ (Str.ofString "list") ([.Call (.Attribute o (Str.ofString "items") apos) [] [] pos].map ((sm L f).val S g))):=ho
     have hv:(sm L (f+1)).val S g (.Call (.Name (Str.ofString "list") q) [.Call (.Attribute o (Str.ofString "items") apos) [] [] pos] [] p)=(match eu (Str.ofString "list") [.Call (.Attribute o (Str.ofString "items") apos) [] [] pos]with
      |some (o,_,_)=>itemsOf ((sm L f).val S g o)
      |none=>L.call (Str.ofString "list") ([.Call (.Attribute o (Str.ofString "items") apos) [] [] pos].map ((sm L f).val S g))):=rfl
     rw[hi]at cb iu hv;rw[hv];simp only[Uw,VX]at cb;obtain⟨⟨⟨h1,h2⟩,h3⟩,h4⟩:=cb;obtain⟨o1,o2⟩:=iu;have a:=iv S g o F ρ h3 o1 R k;dsimp only;generalize(sm L f).val S g o=d at*;induction d using D.casesOn with
     |aG aH=>exact Ev.listItems W.w.list (by rw[R.sig];exact h1) a o2 (gL h2) (by exact Vk ‹_›) (iL rfl) rfl
     |_=>exact o2.elim
    |none=>
     have cb:(match eu x args with
      |some (o,apos,pos)=>S.σ x==some .globalImplicit&&iD o&&a8 f false S o&&apos.endLine==pos.line
      |none=>S.σ x==some .globalImplicit&&x !=gU&& !args.isEmpty&&args.all noStar&&args.all (a8 f false S))=true:=hs
     have iu:(match eu x args with
      |some (o,_,_)=>(so L f).val S g o/\k8 ((sm L f).val S g o)
      |none=>kR (so L f) S g args/\L.bJ x (args.map ((sm L f).val S g))):=ho
     have hv:(sm L (f+1)).val S g (.Call (.Name x q) args [] p)=(match eu x args with
      |some (o,_,_)=>itemsOf ((sm L f).val S g o)
      |none=>L.call x (args.map ((sm L f).val S g))):=rfl
     rw[hi]at cb iu hv;rw[hv];simp only[Uw,VX,Un,V2,ne_eq]at cb;obtain⟨⟨⟨⟨h1,h2⟩,h3⟩,h4⟩,h5⟩:=cb;obtain⟨o1,o2⟩:=iu;dsimp only;induction args using List.casesOn with
     |nil=>exact Ht h3
     |cons a as=>exact W.call _ _ o2 F ρ k a as q p (by rw[R.sig];exact h1) (TH.mpr h2) h4 (om iv R k _ h4 h5 o1)
   |Attribute o name apos=>have cb:(iD o&&a8 f false S o&&apos.endLine==p.line&&args.all noStar&&args.all (a8 f false S)&&decide (args.length<20))=true:=hs;simp only[Uw,VX,Ue]at cb;obtain⟨⟨⟨⟨⟨h1,h2⟩,h3⟩,h4⟩,h5⟩,h6⟩:=cb;obtain⟨o1,o2,o3⟩:=ho;exact W.cZ _ _ _ o3 F ρ k o args apos p h1 h4 (by exact Vk ‹_›) h6 (by simp) (iv S g o F ρ h2 o1 R k) (om iv R k _ h4 h5 o2)
   |_=>exact fR hs
 |ListComp elt gens sc p=>
  induction gens using List.casesOn with
  |nil=>exact fR hs
  |cons c rest=>obtain⟨t,bM,ifs,a⟩:=c;obtain⟨rfl,c⟩:=wR (ρ:=ρ) W.w iv it R hs ho;exact c.LC.ev
 |_=>exact fR hs
def AD(W:i8 G n L)(iv:yQ G n L f)(it:Cp G n L f):Cp G n L (f+1):=by
 intro S g e F ρ hs ho R;have key:plainT e=true->cv G F n ρ e ((sm L (f+1)).lQ S g e):=λhp=>by
  have k3:(plainT e&&a8 f false S e)=true/\((so L f).val S g e/\pn ((sm L f).val S g e))/\(sm L (f+1)).lQ S g e=tr ((sm L f).val S g e):=by
   induction e using Expr.casesOn with
   |UnaryOp op x p=>induction op using UnaryOp.casesOn<;>first|exact⟨hs,ho,rfl⟩|exact fR hp
   |_=>first|exact⟨hs,ho,rfl⟩|exact fR hp
  obtain⟨cb,iu,hv⟩:=k3;rw[Uw]at cb;rw[hv];exact cv.val (iv S g e F ρ cb.2 iu.1 R true) (D8 _ iu.2) (AE hp)
 induction e using Expr.casesOn with
 |BoolOp op es p=>
  induction op using BoolOp.casesOn with
  |And=>exact AY it R es hs ho
  |Or=>exact C9 it R es hs ho
 |UnaryOp op x p=>
  induction op using UnaryOp.casesOn with
  |Not=>exact cv.not (it S g x F ρ hs ho R)
  |_=>exact key rfl
 |Compare l ops xs p=>(refine d4 (Au hs) λop x e1 e2=>?_;subst e1 e2);have cb:(gk x&&a8 f false S l&&a8 f false S x)=true:=hs;simp only[Uw]at cb;exact cv.cmp (iv S g l F ρ cb.1.2 ho.1 R true) (iv S g x F ρ cb.2 ho.2.1 R true) (wV _ _ _ ho.2.2) (tq cb.1.1)
 |IfExp t a b p=>have cb:(false&&a8 f false S (.IfExp t a b p))=true:=hs;exact Bool.noConfusion ‹_›
 |_=>exact key rfl
def sound(W:i8 G n L):∀f,yQ G n L f/\Cp G n L f:=by
 intro l';induction l' with
 |zero=>exact⟨λS g e F ρ hs=>Bool.noConfusion (show false=true from hs),λS g e F ρ hs=>Bool.noConfusion (show false=true from hs)⟩
 |succ f aU=>exact⟨AB W (aU).1 (aU).2,AD W (aU).1 (aU).2⟩
end
section
variable{G:Gd}{n:Nat}
def rF(xs:List Int):(xs.map D.int).map je=xs:=by rw[VA];simp[Function.comp_def,D9]
noncomputable def allI(xs:List D):Prop:=∀d∈xs,∃i,d=.int i
noncomputable def Gi(xs:List D):Prop:=∀d∈xs,∃x,d=.str x
def rQ:∀{xs:List D},allI xs->xs=(xs.map je).map D.int:=by
 intro l';induction l' with
 |nil=>exact @λ_=>rfl
 |cons d ds aU=>exact @λh=>by obtain⟨i,rfl⟩:=h _ (.head _);simp only[Vt,D9];rw[<-aU λd hd=>h d (.tail _ hd)]
def wY:∀{xs:List D},Gi xs->xs=(xs.map toS).map D.str:=by
 intro l';induction l' with
 |nil=>exact @λ_=>rfl
 |cons d ds aU=>exact @λh=>by obtain⟨i,rfl⟩:=h _ (.head _);simp only[Vt,JR];rw[<-aU λd hd=>h d (.tail _ hd)]
def lI{α:Type}(xs:List α)(f:α->Int):allI (xs.map λx=>.int (f x)):=λd hd=>by obtain⟨x,_,rfl⟩:=VB.mp hd;exact⟨_,rfl⟩
def GS{xs:List Int}:PL G n [.tup (xs.map .int)] (λvs=>call (.builtin "sum") vs) (.int xs.sum):=.one λA s X v R S r=>by
 obtain⟨l,vs,rfl,hx,hl,hr⟩:=aQ.mp r;refine call_sum_walkAnyS (wpAny_pyIter_tuple hl ?_);have cB:l<s.heap.objs.size:=ao hl λ_ e _=>VD e;have hint:∀(i:Nat) (u:Value),vs[i]? =some u->∃t,u=.int (xs.getD i 0) t:=λi u e=>by
  have hi:i<xs.length:=by have:=(SF.mp e).1;rw[hr.length]at this;simpa using this
  refine ao (hr.get (i:=i) (d:=.int xs[i]) (by simp[hi])) λu' e1 e2=>?_;rw[e]at e1;obtain rfl:=Option.some.inj e1;rw[Su,SK hi];exact ak.mp e2
 refine ic _ _ _ _ _ _ (jP _ (λi=>xs.getD i 0) rfl ((Walks.tuple (prog:=G.prog) (w:=G.w) (A:=A.in1) R.handled s.heap.objs.size l (VL cB) vs.toArray).toS) ⟨⟨_,TG _ rfl,rfl,rfl⟩,(hl.at λo e=>SR _ e)⟩ ?_ ?_ ?_)
 .intro b hb;have hz:(s.heap.push {cls:=.type "tuple_iterator",data:=.fields #[.ref l,.int 0 0]}).objs.size=s.heap.objs.size+1:=Vl ..;refine(?_:b<(s.heap.push _).objs.size);rw[hz];revert b;refine mA ?_ (mA ?_ mN)
  .exact UG _
  exact Uj cB
 .intro i v hv;exact hint i v (by simpa using hv)
 intro s' t' hm;have hz:vs.toArray.size=xs.length:=by rw[Ud,hr.length];exact US ..
 rw[hz,oR xs _ (λi x e=>by simp[Su,e])];refine⟨.full (λb o e=>?_) ?_ ?_,bO⟩
 .exact hm.heap b o (λq=>by simp only[TX]at q;subst q;exact absurd (VD e) (Vw _)) (SR _ e)
 .exact hm.os
 intro g;have:=hm.gens;rw[this];exact g
noncomputable def bh:D->D
 |.list xs=>.int xs.length
 |.str x=>.int x.length
 |_=>.none
noncomputable def dO:D->Prop
 |.list xs=>xs.length<2^62
 |.str x=>x.length<2^62
 |_=>False
noncomputable def si:D->D
 |.list xs=>.int (xs.map je).sum
 |.tup xs=>.int (xs.map je).sum
 |_=>.none
noncomputable def sH:D->Prop
 |.list xs=>allI xs
 |.tup xs=>allI xs
 |_=>False
noncomputable def sb(f:Str)(ds:List D):D:=
 if f==S "len" then bh (ds.headD .none)
 else if f==S "sum" then si (ds.headD .none)
 else if f==S "abs" then .int (je (ds.headD .none)).natAbs
 else if f==S "min" then .int (min (je (ds.headD .none)) (je (ds.getD 1 .none)))
 else if f==S "max" then .int (max (je (ds.headD .none)) (je (ds.getD 1 .none)))
 else .none
noncomputable def nJ(f:Str)(ds:List D):Prop:=
 if f==S "len" then ds.length=1/\dO (ds.headD .none)
 else if f==S "sum" then ds.length=1/\sH (ds.headD .none)
 else if f==S "abs" then Fd (ui λ_=>True) ds
 else if f==S "min" then Hz (λx y=>ui (λ_=>ui (λ_=>True) y) x) ds
 else if f==S "max" then Hz (λx y=>ui (λ_=>ui (λ_=>True) y) x) ds
 else False
def kg{ds:List D}(h:ds.length=1):ds=[ds.headD .none]:=by
 match ds,h with
 |[d],_=>rfl
def Gx(W:Wd G)(f:Str)(ds:List D)(h:nJ f ds):gV G n f ds (sb f ds):=by
 unfold nJ at h;unfold sb;by_cases h1:(f==S "len")=true
 .rw[if_pos h1]at h⊢;have:f=S "len":=by simpa using h1
  subst this;refine cu h λh2 h3=>?_;clear h;have e:=kg h2;generalize ds.headD .none=d at h3 e⊢;subst e;induction d using D.casesOn with
  |list xs=>exact .bi W.len (Eo h3)
  |str x=>exact .bi W.len (kh h3)
  |_=>exact h3.elim
 rw[if_neg h1]at h⊢;by_cases h1:(f==S "sum")=true
 .rw[if_pos h1]at h⊢;have:f=S "sum":=by simpa using h1
  subst this;refine cu h λh2 h3=>?_;clear h;have e:=kg h2;generalize ds.headD .none=d at h3 e⊢;subst e;induction d using D.casesOn with
  |list xs=>
   have e:=rQ h3
   conv=>arg 4;rw[e]
   exact .bi W.sum Kc
  |tup xs=>
   have e:=rQ h3
   conv=>arg 4;rw[e]
   exact .bi W.sum GS
  |_=>exact h3.elim
 rw[if_neg h1]at h⊢;by_cases h1:(f==S "abs")=true
 .rw[if_pos h1]at h⊢;have:f=S "abs":=by simpa using h1
  subst this;obtain⟨x,rfl,h⟩:=lZ h;(refine ao (eB h) λa aB h=>?_;subst aB);exact .bi W.abs Ke
 rw[if_neg h1]at h⊢;by_cases h1:(f==S "min")=true
 .rw[if_pos h1]at h⊢;have:f=S "min":=by simpa using h1
  subst this;obtain⟨x,y,rfl,h⟩:=n9 h;(refine ao (eB h) λa aB h=>?_;subst aB);(refine ao (eB h) λb aB h=>?_;subst aB);exact .bi W.min sN
 rw[if_neg h1]at h⊢;by_cases h1:(f==S "max")=true
 .rw[if_pos h1]at h⊢;have:f=S "max":=by simpa using h1
  subst this;obtain⟨x,y,rfl,h⟩:=n9 h;(refine ao (eB h) λa aB h=>?_;subst aB);(refine ao (eB h) λb aB h=>?_;subst aB);exact .bi W.max Kd
 rw[if_neg h1]at h;exact h.elim
noncomputable def CJ(m:Str)(d:D)(ds:List D):D:=
 if m==S "count" then .int (((aN d).map je).count (je (ds.headD .none)):Nat)
 else if m==S "index" then .int (((aN d).map toS).idxOf (toS (ds.headD .none)):Nat)
 else if m==S "join" then .str (Txt.join ⟨#[]⟩ ((aN (ds.headD .none)).map toS))
 else if m==S "get" then(match d with|.aG aH=>(look aH (je (ds.headD .none))).getD (ds.getD 1 .none)|.cF aH=>(look aH (toS (ds.headD .none))).getD (ds.getD 1 .none)|_=>.none)
 else .none
noncomputable def rp(m:Str)(d:D)(ds:List D):Prop:=
 if m==S "count" then Ff (λxs=>Fd (ui λ_=>allI xs) ds) d
 else if m==S "index" then Ff (λxs=>Fd (Li λx=>Gi xs/\x∈xs.map toS/\xs.length<2^60) ds) d
 else if m==S "join" then d=.str ⟨#[]⟩/\Fd (Ff λxs=>Gi xs/\((xs.map toS).map (·.length)).sum<=16777216) ds
 else if m==S "get" then(match d with|.aG _=>Hz (λx _=>ui (λ_=>True) x) ds|.cF _=>Hz (λx _=>Li (λ_=>True) x) ds|_=>False)
 else False
def wu(m:Str)(d:D)(ds:List D)(h:rp m d ds):jq G n m d ds (CJ m d ds):=by
 unfold rp at h;unfold CJ;by_cases h1:(m==S "count")=true
 .rw[if_pos h1]at h⊢;have:m=S "count":=by simpa using h1
  subst this;obtain⟨xs,rfl,h⟩:=l5 h;(refine ao (lZ h) λx aB h=>?_;subst aB);(refine ao (eB h) λx aB h=>?_;subst aB);have e:=rQ h
  conv=>arg 4;rw[e]
  exact .of A7 rfl Dq
 rw[if_neg h1]at h⊢;by_cases h1:(m==S "index")=true
 .rw[if_pos h1]at h⊢;have:m=S "index":=by simpa using h1
  subst this;obtain⟨xs,rfl,h⟩:=l5 h;(refine ao (lZ h) λx aB h=>?_;subst aB);(refine ao (uU h) λx aB h=>?_;subst aB);have e:=wY h.1
  conv=>arg 4;rw[e]
  exact .of A0 rfl (Dp h.2.1 (by simpa using h.2.2))
 rw[if_neg h1]at h⊢;by_cases h1:(m==S "join")=true
 .rw[if_pos h1]at h⊢;have:m=S "join":=by simpa using h1
  subst this;obtain⟨rfl,h⟩:=h;obtain⟨x,rfl,h⟩:=lZ h;(refine ao (l5 h) λxs aB h=>?_;subst aB);have e:=wY h.1
  conv=>arg 5;rw[e]
  exact .of Di rfl (GU h.2)
 rw[if_neg h1]at h⊢;by_cases h1:(m==S "get")=true
 .rw[if_pos h1]at h⊢;have:m=S "get":=by simpa using h1
  subst this;induction d using D.casesOn with
  |aG aH=>obtain⟨x,y,rfl,h⟩:=n9 h;(refine ao (eB h) λa aB h=>?_;subst aB);exact .of Ad rfl GW
  |cF aH=>obtain⟨x,y,rfl,h⟩:=n9 h;(refine ao (uU h) λa aB h=>?_;subst aB);exact .of Ad rfl GV
  |_=>exact h.elim
 rw[if_neg h1]at h;exact h.elim
noncomputable def gl(x:Str):Option Int:=
 if x==S "ENDMARKER" then some 0
 else if x==S "NT_OFFSET" then some 256
 else if x==S "_MAX_STRING_SIZE" then some 40
 else if x==S "_MOVE_COST" then some 2
 else if x==S "_CASE_COST" then some 1
 else none
def KD(W:Wd G)(h:gl x=some i):∃t,G.mg x=some (.int i t):=by
 unfold gl at h;by_cases q:(x==S "ENDMARKER")=true
 .rw[if_pos q]at h;obtain rfl:=Option.some.inj h;rw[eq_of_beq q];exact W.endmarker
 rw[if_neg q]at h;by_cases q:(x==S "NT_OFFSET")=true
 .rw[if_pos q]at h;obtain rfl:=Option.some.inj h;rw[eq_of_beq q];exact W.lC
 rw[if_neg q]at h;by_cases q:(x==S "_MAX_STRING_SIZE")=true
 .rw[if_pos q]at h;obtain rfl:=Option.some.inj h;rw[eq_of_beq q];exact W.ni
 rw[if_neg q]at h;by_cases q:(x==S "_MOVE_COST")=true
 .rw[if_pos q]at h;obtain rfl:=Option.some.inj h;rw[eq_of_beq q];exact W.ej
 rw[if_neg q]at h;by_cases q:(x==S "_CASE_COST")=true
 .rw[if_pos q]at h;obtain rfl:=Option.some.inj h;rw[eq_of_beq q];exact W.oL
 rw[if_neg q]at h;exact cG h
noncomputable def eP(fs:Str->Bool)(call:Str->List D->D)(ok:Str->List D->Prop):jX where
 glob:=λx=>.int ((gl x).getD 0)
 l6:=λx=>(gl x).isSome=true
 call:=λf ds=>if fs f then call f ds else sb f ds
 bJ:=λf ds=>if fs f then ok f ds else nJ f ds
 cZ:=CJ
 eS:=rp
def fh(W:Wd G){call:Str->List D->D}(h:∀f ds,fs f=true->ok f ds->gV G n f ds (call f ds)):i8 G n (eP fs call ok) where
 w:=W
 glob:=λx h F ρ k p hx hd=>by refine aO (SM.mp h) λi hi=>?_;refine(?_:Ev G F n ρ k _ (.int ((gl x).getD 0)));rw[hi];exact Ev.kb (KD W hi) hx hd
 call:=λf ds o=>by
  unfold eP at o⊢;dsimp only at o⊢;by_cases hf:fs f=true
  .rw[if_pos hf]at o⊢;exact h f ds hf o
  rw[if_neg hf]at o⊢;exact Gx W f ds o
 cZ:=wu
noncomputable def fA:jX:=eP (λ_=>false) (λ_ _=>.none) (λ_ _=>False)
def ft(W:Wd G):i8 G n fA:=fh W λ_ _ h=>by exact fR h
end
noncomputable abbrev fu:Nat:=24
noncomputable def uF(scope:Scope)(vars:List Str):Bool:=scope.kind==.function&&decide vars.Nodup&&(scope.names.all λx=>x.2 !=.free)&& !vars.contains accN
noncomputable def Sx.of(scope:Scope)(vars:List Str)(ρ:RE):Sx where
 σ:=λx=>scope.names.lookup x
 st:=λx=>x !=accN&&vars.contains x&&(scope.names.lookup x==some .local||scope.names.lookup x==some .cell)
 pO:=λx=>match uh vars ρ x with|some (_,.val _)=>true|_=>false
noncomputable def uv(vars:List Str)(ρ:RE):Gt:=λx=>match uh vars ρ x with|some (_,.val d)=>d|_=>.none
noncomputable def fz:Slot->Slot
 |.own _ d=>.val d
 |s=>s
def NI{l:Addr}{d:D}:fz (.own l d)=.val d:=rfl
def NH{d:D}:fz (.val d)=.val d:=rfl
def NJ:fz .no=.no:=rfl
noncomputable def j7(ρ:RE):RE:=ρ.map fz
noncomputable def fT(vars:List Str)(x:Str)(sl:Slot)(ρ:RE):RE:=ρ.set ((nA vars x).getD 0) sl
noncomputable abbrev fx(name:Str)(scope:Scope)(vars:List Str)(L a:Addr)(cd:Value)(aD:XS):Fx:=⟨envOfC name scope L a cd,vars,aD⟩
section
variable{G:Gd}{n:Nat}{Lb:jX}{name:Str}{scope:Scope}{vars:List Str}{L a:Addr}{cd:Value}{aD:XS}{ρ:RE}
def l7(h:uF scope vars=true)(hx:(x !=accN&&vars.contains x&&(scope.names.lookup x==some .local||scope.names.lookup x==some .cell))=true):x≠accN/\d6 (fx name scope vars L a cd aD) ((nA vars x).getD 0) x:=by
 unfold uF at h;simp only[Uw,VX,Ue,Un,Tx,SN]at h;(refine cu h λaB h4=>?_;obtain⟨⟨h1,h2⟩,h3⟩:=aB);simp only[Uw,V2,ne_eq,U0,VX,Tx,Ue]at hx;(refine cu hx λaB g3=>?_;obtain⟨g1,g2⟩:=aB);have ex:∀(vs:List Str),x∈vs->∃i,nA vs x=some i:=λvs=>by
  induction vs with
  |nil=>intro h;exact pL h
  |cons y ys ih=>
   intro h;unfold nA;by_cases e:(x==y)=true
   .rw[if_pos e];exact⟨0,rfl⟩
   rw[if_neg e];have:x∈ys:=by
    rcases Vr.mp h with q|q
    .subst q;simp at e
    exact q
   refine aO (ih this) λi hi=>?_;rw[hi];exact⟨_,rfl⟩
 refine aO (ex vars g2) λi hi=>?_;refine⟨g1,?_⟩;rw[hi];refine⟨iO hi,d6.kg h2 (iO hi),?_⟩;rcases g3 with q|q
 .exact .inl q
 refine .inr ⟨q,?_⟩;refine aO (SM.mp (Vo (x:=x) scope.names (L+1) [] (.inl q))) λc hc=>?_;refine bH c hc ?_;rcases gW _ _ _ (mem_of_lookup hc)with z|z
 .exact pL z
 exact z
set_option tactic.hygienic true in
def n4(h:uF scope vars=true)(hl:ρ.length=vars.length):Rel (fx name scope vars L a cd aD) ρ (Sx.of scope vars ρ) (uv vars ρ):=by
 have h':=h;unfold uF at h';simp only[Uw,VX,Ue,Un,Tx,SN]at h';(refine cu h' λaB h4=>?_;obtain⟨⟨h1,h2⟩,h3⟩:=aB);refine⟨h1,λx=>rfl,λx hx=>?_,h2,λx hx=>⟨(l7 (name:=name) (L:=L) (a:=a) (cd:=cd) (aD:=aD) h hx).1,_,(l7 h hx).2⟩,hl,λx hx=>?_⟩
 .rcases hx with q|q
  .exact Vo _ _ _ (.inl q)
  have:=UE.mp h3 _ (ib (show scope.names.lookup x=some .free from q));exact Bool.noConfusion ‹_›
 replace hx:(match uh vars ρ x with|some (_,.val _)=>true|_=>false)=true:=hx;induction e:uh vars ρ x using Option.casesOn with
 |none=>rw[e]at hx;exact fR hx
 |some q=>
  obtain⟨i,sl⟩:=q;rw[e]at hx;induction sl using Slot.casesOn with
  |val d=>have:=fZ e;refine bH i this.1 ?_;rw[show uv vars ρ x=d by delta uv;rw[e]];exact this.2
  |_=>exact fR hx
def St.mu(S:St G F X ρ h)(hv:accN∉F.vars):∃X':XS,(∀a,X' a->X a)/\St G F X' (j7 ρ) h:=by
 have key:∀k,k<=ρ.length->∃X':XS,(∀a,X' a->X a)/\St G F X' ((ρ.take k).map fz++ρ.drop k) h:=by
  intro k;induction k with
  |zero=>intro _;exact bH X (λ_ q=>q) (by trivial)
  |succ k ih=>
   intro hk;refine ao (ih (by exact VE ‹_›)) λX' h1 h2=>?_;have cB:k<ρ.length:=by assumption
   have e1:ρ.drop k=ρ[k]::ρ.drop (k+1):=SG cB;have e2:ρ.take (k+1)=ρ.take k++[ρ[k]]:=by rw[Ug,SK cB];rfl
   have hlen:((ρ.take k).map fz).length=k:=by simp;exact(A2 [.e fJ Vb] (.q (.i Va Vb) Va)) hk
   induction hs:ρ[k]using Slot.casesOn with
   |own a d=>
    have hm:((ρ.take k).map fz++ρ.drop k)[k]? =some (.own a d):=by (refine V3 (SE (by exact VH hlen)) ?_;refine Eq.substr hlen ?_;rw[Nat.sub_self];refine Eq.substr e1 ?_;refine Eq.substr hs ?_);rfl
    have Ot:k<F.vars.length:=by have:=S.len;exact T1 hk this
    have hn:(F.vars[k]==accN)=false:=TH.mpr λq=>hv (q▸UH Ot);have S':=h2.freeze (SK Ot) hm hn;refine bH (λb=>X' b/\b≠a) (λb q=>h1 b q.1) ?_;have e3:((ρ.take k).map fz++ρ.drop k).set k (.val d)=(ρ.take (k+1)).map fz++ρ.drop (k+1):=by (refine V3 (set_append_right _ _ (by exact VH hlen)) ?_;refine Eq.substr hlen ?_;rw[Nat.sub_self];refine Eq.substr e1 ?_;refine Eq.substr e2 ?_;refine Eq.substr hs ?_);simp[NI]
    rw[e3]at S';exact S'
   |_=>
    refine bH X' h1 ?_;have e3:(ρ.take k).map fz++ρ.drop k=(ρ.take (k+1)).map fz++ρ.drop (k+1):=by (refine Eq.substr e1 ?_;refine Eq.substr e2 ?_;refine Eq.substr hs ?_);simp[NH,NJ]
    rw[<-e3];exact h2
 refine ao (key ρ.length (VP _)) λX' h1 h2=>?_;refine bH X' h1 ?_;simpa[j7]using h2
def cv.j7(hv:accN∉F.vars)(x:cv G F n (j7 ρ) e b):cv G F n ρ e b:=λA s X R S=>by refine ao (S.mu hv) λX' h1 S'=>?_;exact x A s X' R S'
def Ev.j7(hv:accN∉F.vars)(x:Ev G F n (Mine.j7 ρ) true e d)(hd:d.atom=true):Ev G F n ρ k e d:=λA s X R S=>by refine ao (S.mu hv) λX' h1 S'=>?_;exact ay (x A s X' R S') (λv s' g1 g2=>⟨g1,g2.atom hd⟩)
def bw.j7(hv:accN∉F.vars)
 (c:bw G F n (Mine.j7 ρ) e iE target bM rest scope (.list ds))(hp:ds.all D.atom=true):bw G F n ρ e iE target bM rest scope (.list ds) where
 go:=λA s X pD use Q R S hQ=>by refine ao (S.mu hv) λX' h1 S'=>?_;exact c.go A s X' pD use Q R S' λeK a C m ex ha hC HQ Ii w5=>ao w5 λvs h4 h5=>hQ eK a C m ex ha hC HQ Ii ⟨vs,h4,h5.atoms hp⟩
end
structure Ew(G:Gd)(F:Fx)(n:Nat)(ρ:RE)(k:Bool)(e:Expr)(d:D):Prop where
 ev:Ev G F n ρ k e d
structure Tw(G:Gd)(F:Fx)(n:Nat)(ρ:RE)(e:Expr)(b:Bool):Prop where
 ev:cv G F n ρ e b
structure Fw(G:Gd)(F:Fx)(n:Nat)(ρ:RE)(e:Expr)(d:D):Prop where
 ev:mB G F n ρ e d
structure Lw(G:Gd)(F:Fx)(n:Nat)(ρ:RE)(k:Bool)(es:List Expr)(ds:List D):Prop where
 ev:b8 G F n ρ k es ds
structure Go(G:Gd)(F:Fx)(n:Nat)(ρ:RE)(ss:List Stmt)(Φ:Ph):Prop where
 ex:Ex G F n ρ ss Φ
noncomputable def du(G:Gd)(F:Fx)(n:Nat)(ss:List Stmt)(Φ:Ph):Ph:=λfl az=>match fl with
 |.next=>Go G F n az ss Φ
 |fl=>Φ fl az
structure Cf(G:Gd)(n:Nat)(Lb:jX)(scope:Scope)(vars:List Str):Prop where
 fr:uF scope vars=true
 BO:i8 G n Lb
section
variable{G:Gd}{n:Nat}{Lb:jX}{name:Str}{scope:Scope}{vars:List Str}{L a:Addr}{cd:Value}{aD:XS}{ρ:RE}{ss:List Stmt}{Φ:Ph}
def Go.of{st:Stmt}(h:bQ G F n ρ st (du G F n ss Φ)):Go G F n ρ (st::ss) Φ:=
 ⟨Ex.cons (h.mono λfl az q=>by
  induction fl using Fl.casesOn with
  |next=>exact q.ex
  |ret d=>exact q)⟩
def du.nil(h:Go G F n ρ ss Φ):du G F n ss Φ .next ρ:=h
def oj(h:uF scope vars=true):accN∉vars:=by unfold uF at h;simp only[Uw,VX,Ue,Un,Tx,SN]at h;exact h.2
noncomputable abbrev V(Lb:jX)(scope:Scope)(vars:List Str)(ρ:RE)(e:Expr):D:=(sm Lb fu).val (Sx.of scope vars ρ) (uv vars ρ) e
noncomputable abbrev T?(Lb:jX)(scope:Scope)(vars:List Str)(ρ:RE)(e:Expr):Bool:=(sm Lb fu).lQ (Sx.of scope vars ρ) (uv vars ρ) e
noncomputable abbrev K(Lb:jX)(scope:Scope)(vars:List Str)(ρ:RE)(e:Expr):Prop:=(so Lb fu).val (Sx.of scope vars ρ) (uv vars ρ) e
noncomputable abbrev KT(Lb:jX)(scope:Scope)(vars:List Str)(ρ:RE)(e:Expr):Prop:=(so Lb fu).lQ (Sx.of scope vars ρ) (uv vars ρ) e
noncomputable def mX(scope:Scope)(vars:List Str)(ρ:RE)(x:Str):Bool:=(Sx.of scope vars ρ).st x&&ρ.length==vars.length
noncomputable def pE(scope:Scope)(vars:List Str)(ρ:RE)(e:Expr):Bool:=a8 fu false (Sx.of scope vars ρ) e&&ρ.length==vars.length
noncomputable def uG(scope:Scope)(vars:List Str)(ρ:RE)(e:Expr):Bool:=a8 fu true (Sx.of scope vars ρ) e&&ρ.length==vars.length
def Ev.at(C:Cf G n Lb scope vars)(c:pE scope vars ρ e=true)(o:K Lb scope vars ρ e)(v:V Lb scope vars ρ e=d):Ev G (fx name scope vars L a cd aD) n ρ k e d:=by unfold pE at c;rw[Uw,VX]at c;exact v▸(sound C.BO fu).1 _ _ e _ ρ c.1 o (n4 C.fr c.2) k
def cv.at(C:Cf G n Lb scope vars)(c:uG scope vars ρ e=true)(o:KT Lb scope vars ρ e)(v:T? Lb scope vars ρ e=b):cv G (fx name scope vars L a cd aD) n ρ e b:=by unfold uG at c;rw[Uw,VX]at c;exact v▸(sound C.BO fu).2 _ _ e _ ρ c.1 o (n4 C.fr c.2)
def Ev.D4(C:Cf G n Lb scope vars)(c:pE scope vars (Mine.j7 ρ) e=true)(o:K Lb scope vars (Mine.j7 ρ) e)(v:V Lb scope vars (Mine.j7 ρ) e=d)(hd:d.atom=true):Ev G (fx name scope vars L a cd aD) n ρ k e d:=
 Ev.j7 (oj C.fr) (Ev.at C c o v) hd
def cv.D4(C:Cf G n Lb scope vars)(c:uG scope vars (Mine.j7 ρ) e=true)(o:KT Lb scope vars (Mine.j7 ρ) e)(v:T? Lb scope vars (Mine.j7 ρ) e=b):cv G (fx name scope vars L a cd aD) n ρ e b:=
 cv.j7 (oj C.fr) (cv.at C c o v)
def bw.at(C:Cf G n Lb scope vars)(c:pE scope vars ρ (.ListComp elt (⟨t,bM,ifs,0⟩::rest) sc pos)=true)(o:K Lb scope vars ρ (.ListComp elt (⟨t,bM,ifs,0⟩::rest) sc pos))(v:V Lb scope vars ρ (.ListComp elt (⟨t,bM,ifs,0⟩::rest) sc pos)=d):
 bw G (fx name scope vars L a cd aD) n ρ (.ListComp elt (⟨t,bM,ifs,0⟩::rest) sc pos) (newList []) t bM rest sc d:=by
 unfold pE at c;rw[Uw,VX]at c;exact v▸(wR (n:=n) C.BO.w (sound C.BO 23).1 (sound C.BO 23).2 (n4 C.fr c.2) c.1 o).2
def gQ(C:Cf G n Lb scope vars)(c:mX scope vars ρ x=true):d6 (fx name scope vars L a cd aD) ((nA vars x).getD 0) x/\(nA vars x).getD 0<ρ.length:=by unfold mX at c;rw[Uw,VX]at c;have h:=(l7 (name:=name) (L:=L) (a:=a) (cd:=cd) (aD:=aD) C.fr c.1).2;exact⟨h,by rw[c.2];exact(SF.mp h.at_).1⟩
def Ew.at(C:Cf G n Lb scope vars)(c:pE scope vars ρ e=true)(o:K Lb scope vars ρ e)(v:V Lb scope vars ρ e=d):Ew G (fx name scope vars L a cd aD) n ρ k e d:=⟨Ev.at C c o v⟩
def Tw.at(C:Cf G n Lb scope vars)(c:uG scope vars ρ e=true)(o:KT Lb scope vars ρ e)(v:T? Lb scope vars ρ e=b):Tw G (fx name scope vars L a cd aD) n ρ e b:=⟨cv.at C c o v⟩
def Ew.D4(C:Cf G n Lb scope vars)(c:pE scope vars (Mine.j7 ρ) e=true)(o:K Lb scope vars (Mine.j7 ρ) e)(v:V Lb scope vars (Mine.j7 ρ) e=d)(hd:d.atom=true):Ew G (fx name scope vars L a cd aD) n ρ k e d:=⟨Ev.D4 C c o v hd⟩
def Tw.D4(C:Cf G n Lb scope vars)(c:uG scope vars (Mine.j7 ρ) e=true)(o:KT Lb scope vars (Mine.j7 ρ) e)(v:T? Lb scope vars (Mine.j7 ρ) e=b):Tw G (fx name scope vars L a cd aD) n ρ e b:=⟨cv.D4 C c o v⟩
def Lw.nil:Lw G F n ρ k [] []:=⟨b8.nil⟩
def Lw.cons(h:noStar e=true)(x:Ew G F n ρ k e d)(r:Lw G F n ρ k es ds):Lw G F n ρ k (e::es) (d::ds):=⟨b8.cons x.ev r.ev (iL h)⟩
def Fw.list(h:Lw G F n ρ false es ds)(hz:ds.length<=sizeLine):Fw G F n ρ (.List es pos) (.list ds):=⟨mB.list h.ev hz⟩
def Fw.vX:Fw G F n ρ (.Dict [] [] pos) (.aG []):=⟨mB.vX⟩
def Fw.vc:Fw G F n ρ (.Dict [] [] pos) (.cF []):=⟨mB.vc⟩
def Fw.comp(h:bw G F n ρ (.ListComp elt (⟨t,bM,ifs,0⟩::rest) sc pos) (newList []) t bM rest sc d):Fw G F n ρ (.ListComp elt (⟨t,bM,ifs,0⟩::rest) sc pos) d:=⟨h.LC⟩
def Ew.PI(h:Fw G F n ρ e d):Ew G F n ρ k e d:=⟨h.ev.ev⟩
def Go.nil(h:Φ .next ρ):Go G F n ρ [] Φ:=⟨Ex.nil h⟩
def Go.assign(C:Cf G n Lb scope vars)(c:mX scope vars ρ x=true)(a':Ew G (fx name scope vars L a cd aD) n ρ false e d)
 (hs:swapsWith e (some (.Name x p)) pos.line (fx name scope vars L a cd aD).env=pure false)(r:Go G (fx name scope vars L a cd aD) n (fT vars x (.val d) ρ) ss Φ):Go G (fx name scope vars L a cd aD) n ρ (.Assign [.Name x p] e pos::ss) Φ:=
 .of (bQ.assign _ (gQ C c).1 a'.ev r hs)
def Go.fw(C:Cf G n Lb scope vars)(c:mX scope vars ρ x=true)(a':Fw G (fx name scope vars L a cd aD) n ρ e d)
 (hs:swapsWith e (some (.Name x p)) pos.line (fx name scope vars L a cd aD).env=pure false)(r:∀l,Go G (fx name scope vars L a cd aD) n (fT vars x (.own l d) ρ) ss Φ):Go G (fx name scope vars L a cd aD) n ρ (.Assign [.Name x p] e pos::ss) Φ:=
 .of (bQ.fw _ (gQ C c).1 a'.ev r (gQ (name:=name) (L:=L) (a:=a) (cd:=cd) (aD:=aD) C c).2 hs)
def AM(hi:(nA vars x).getD 0<ρ.length):(fT vars x sl ρ)[(nA vars x).getD 0]? =some sl:=by unfold fT;simp[hi]
def Go.IJ(C:Cf G n Lb scope vars)(c:mX scope vars ρ x=true)(r:Go G (fx name scope vars L a cd aD) n (fT vars x (.val d) ρ) ss Φ):Go G (fx name scope vars L a cd aD) n (fT vars x (.own l d) ρ) ss Φ:=by
 refine cu (gQ (name:=name) (L:=L) (a:=a) (cd:=cd) (aD:=aD) C c) λk hi=>?_;have hx:(x==accN)=false:=by unfold mX at c;rw[Uw]at c;exact TH.mpr (l7 (name:=name) (L:=L) (a:=a) (cd:=cd) (aD:=aD) C.fr c.1).1
 refine⟨Ex.freeze k.at_ (AM hi) hx ?_⟩;have e:(fT vars x (.own l d) ρ).set ((nA vars x).getD 0) (.val d)=fT vars x (.val d) ρ:=by unfold fT;rw[set_set]
 rw[e];exact r.ex
def Go.eV(C:Cf G n Lb scope vars)(c:mX scope vars ρ x=true)
 (h:bw G (fx name scope vars L a cd aD) n ρ (.ListComp elt (⟨t,bM,ifs,0⟩::rest) sc xr) (newList []) t bM rest sc d)
 (hs:swapsWith (.ListComp elt (⟨t,bM,ifs,0⟩::rest) sc xr) (some (Expr.Name x p)) pos.line (fx name scope vars L a cd aD).env=pure true)
 (r:Go G (fx name scope vars L a cd aD) n (fT vars x (.val d) ρ) ss Φ):Go G (fx name scope vars L a cd aD) n ρ (.Assign [.Name x p] (.ListComp elt (⟨t,bM,ifs,0⟩::rest) sc xr) pos::ss) Φ:=
 .of (bQ.eV h _ (gQ C c).1 (λl=>Go.IJ C c r) (gQ (name:=name) (L:=L) (a:=a) (cd:=cd) (aD:=aD) C c).2 hs)
def Go.ret(a':Ew G F n ρ true e d)(h:Φ (.ret d) ρ):Go G F n ρ (.Return (some e) pos::ss) Φ:=.of (bQ.ret a'.ev h)
def Go.ite(x:Tw G F n ρ t c)(y:c=true->Go G F n ρ b (du G F n ss Φ))(z:c=false->Go G F n ρ o (du G F n ss Φ)):Go G F n ρ (.If t b o pos::ss) Φ:=
 .of (bQ.ite x.ev (λh=>(y h).ex) λh=>(z h).ex)
noncomputable def ownAt(vars:List Str)(ρ:RE)(x:Str)(l:Addr)(d:D):Prop:=uh vars ρ x=some ((nA vars x).getD 0,.own l d)
def jH(h:ownAt vars ρ x l d):vars[(nA vars x).getD 0]? =some x/\ρ[(nA vars x).getD 0]? =some (.own l d):=fZ h
end
section
variable{G:Gd}{n:Nat}{Lb:jX}{name:Str}{scope:Scope}{vars:List Str}{L a:Addr}{cd:Value}{aD:XS}{ρ:RE}{ss:List Stmt}{Φ:Ph}
noncomputable def jn(x:Str):Bool:=x !=gU&&x !=rv&&x !=accN
def gc(h:jn x=true):(x==gU)=false/\(x==rv)=false/\(x==accN)=false:=by unfold jn at h;simp only[Uw,V2,ne_eq]at h;exact⟨TH.mpr h.1.1,TH.mpr h.1.2,TH.mpr h.2⟩
def Go.append(m:ownAt F.vars ρ x l (.list ds))(c:jn x=true)(st:noStar e=true)(dH:(apos.endLine==pos.line)=true)(a':Ew G F n ρ false e d)(hz:ds.length<=sizeLine)
 (hi:interactive F.env=false)
 (r:Go G F n (fT F.vars x (.own l (.list (ds++[d]))) ρ) ss Φ):Go G F n ρ (.Expr (.Call (.Attribute (.Name x p) (Str.ofString "append") apos) [e] [] pos) q::ss) Φ:=by
 have g:=jH m;refine dW (gc c) λh1 h2 h3=>?_;have e9:[e].all noStar=true:=by simp[st]
 exact .of (bQ.append (Φ:=du G F n ss Φ) _ g.1 g.2 a'.ev hz r h1 h2 h3 (gL rfl) dH (ru e9 (by exact Tc rfl)) (cO e9) hi rfl)
def Go.insert{l:Addr}{ds:List D}{k:Nat}{d:D}(m:ownAt F.vars ρ x l (.list ds))(c:jn x=true)(st:[dE,cS].all noStar=true)(dH:(apos.endLine==pos.line)=true)(a':Lw G F n ρ false [dE,cS] [.int k,d])(hz:ds.length<=sizeLine)(hk:k<=ds.length)
 (hi:interactive F.env=false)
 (r:Go G F n (fT F.vars x (.own l (.list (ds.take k++d::ds.drop k))) ρ) ss Φ):Go G F n ρ (.Expr (.Call (.Attribute (.Name x p) (Str.ofString "insert") apos) [dE,cS] [] pos) q::ss) Φ:=by
 have g:=jH m;refine dW (gc c) λh1 h2 h3=>?_;have sx:[cS].all noStar=true:=by rw[Vu,Uw]at st;exact st.2
 exact .of (bQ.insert _ g.1 g.2 a'.ev hz hk r h1 h2 h3 (gL rfl) dH (ru st (by exact Tc rfl)) (cO st) (dT sx).1 hi rfl)
def Go.yR(m:ownAt F.vars ρ x l (.aG aH))(c:jn x=true)(a':Ew G F n ρ false e d)(b:Ew G F n ρ true ie (.int j))(hz:aH.length<=sizeLine)
 (hs:swapsWith e (some (.Subscript (.Name x p) ie tp)) pos.line F.env=pure false)(r:Go G F n (fT F.vars x (.own l (.aG (put aH j d))) ρ) ss Φ):Go G F n ρ (.Assign [.Subscript (.Name x p) ie tp] e pos::ss) Φ:=by
 have g:=jH m;refine dW (gc c) λh1 h2 h3=>?_;exact .of (bQ.yR _ g.1 g.2 a'.ev b.ev hz r h1 h2 h3 hs)
def Go.FD(m:ownAt F.vars ρ x l (.cF aH))(c:jn x=true)(a':Ew G F n ρ false e d)(b:Ew G F n ρ true ie (.str j))(hz:aH.length<=sizeLine)
 (hs:swapsWith e (some (.Subscript (.Name x p) ie tp)) pos.line F.env=pure false)(r:Go G F n (fT F.vars x (.own l (.cF (put aH j d))) ρ) ss Φ):Go G F n ρ (.Assign [.Subscript (.Name x p) ie tp] e pos::ss) Φ:=by
 have g:=jH m;refine dW (gc c) λh1 h2 h3=>?_;exact .of (bQ.FD _ g.1 g.2 a'.ev b.ev hz r h1 h2 h3 hs)
def Go.Gg(m:ownAt F.vars ρ x l (.aG aH))(c:jn x=true)(b:Ew G F n ρ true ie (.int j))(hj:look aH j=some bL)(a':Ew G F n ρ false e cN)(q:P2 G n bL cN (inplaceOp op) d)(hz:aH.length<=sizeLine)
 (hi:∀ov iv new,augStore ie ov iv new=(do holding [new,ov,iv] (setItem ov iv new);release [new,ov,iv] [];pure .next))(r:Go G F n (fT F.vars x (.own l (.aG (put aH j d))) ρ) ss Φ):Go G F n ρ (.AugAssign (.Subscript (.Name x p) ie tp) op e pos::ss) Φ:=by
 have g:=jH m;refine dW (gc c) λh1 h2 h3=>?_;exact .of (bQ.Gg _ g.1 g.2 b.ev hj a'.ev q hz r h1 h2 h3 hi)
noncomputable def nt(vars:List Str):List Expr->List D->RE->RE
 |.Name x _::ts,d::ds,ρ=>nt vars ts ds (fT vars x (.val d) ρ)
 |_,_,ρ=>ρ
noncomputable def ry(vars:List Str):Expr->D->RE->RE
 |.Name x _,d,ρ=>fT vars x (.val d) ρ
 |.Tuple ts _ _,.tup ds,ρ=>nt vars ts ds ρ
 |_,_,ρ=>ρ
noncomputable def stN(scope:Scope)(vars:List Str)(x:Str):Bool:=x !=accN&&vars.contains x&&(scope.names.lookup x==some .local||scope.names.lookup x==some .cell)
noncomputable def xt(scope:Scope)(vars:List Str)(t:Expr):Bool:=LR t&&(lY t).all (stN scope vars)
theorem Aw(C:Cf G n Lb scope vars):∀(ts:List Expr) (ds:List D) (ρ:RE),(ts.all λt=>(nameOf t).isSome)=true->((ts.filterMap nameOf).all (stN scope vars))=true->ds.length=ts.length->uy G (fx name scope vars L a cd aD) n ρ ts ds (nt vars ts ds ρ)
 |[],ds,ρ,_,_,h=>by have:ds=[]:=Sr h;subst this;exact uy.nil
 |t::ts,[],ρ,_,_,h=>by trivial
 |t::ts,d::ds,ρ,h1,h2,h=>by rw[Vu,Uw]at h1;obtain⟨x,p,rfl⟩:=rE h1.1;replace h2:(x::ts.filterMap nameOf).all (stN scope vars)=true:=h2;simp only[Vu,Uw]at h2;exact uy.cons (As.name _ (l7 C.fr h2.1).2) (Aw C ts ds _ h1.2 h2.2 (by simpa using h))
def v7(C:Cf G n Lb scope vars)(c:xt scope vars t=true)(b:gS t d):As G (fx name scope vars L a cd aD) n ρ t d (ry vars t d ρ):=by
 unfold xt at c;rw[Uw]at c;rcases z0 c.1 with⟨x,p,rfl⟩|⟨ts,j,p,rfl⟩
 .replace c:true=true/\[x].all (stN scope vars)=true:=c;simp only[Vu,all_nil,Bool.and_true]at c;exact As.name _ (l7 C.fr c.2).2
 induction d using D.casesOn with
 |tup ds=>
  refine As.tup (Aw C ts ds ρ c.1 c.2 b) ?_ ?_
  .rw[iQ c.1,US];exact b.symm
  rw[iQ c.1,findIdx?_map,findIdx?_eq_none_iff];intro x _;rfl
 |_=>exact b.elim
def Go.jM(C:Cf G n Lb scope vars)(c:xt scope vars (.Tuple ts j tp)=true)(b:ds.length=ts.length)(a':Ew G (fx name scope vars L a cd aD) n ρ false e (.tup ds))
 (hs:swapsWithSole [.Tuple ts j tp] e pos.line (fx name scope vars L a cd aD).env=pure false)(hw:swappedStores [.Tuple ts j tp] e (fx name scope vars L a cd aD).env=pure none)
 (r:Go G (fx name scope vars L a cd aD) n (nt vars ts ds ρ) ss Φ):Go G (fx name scope vars L a cd aD) n ρ (.Assign [.Tuple ts j tp] e pos::ss) Φ:=
 .of (bQ.jM a'.ev (v7 C c b) r hs hw)
def Go.ny(C:Cf G n Lb scope vars)(cx:mX scope vars ρ x=true)(cy:mX scope vars ρ y=true)(a':Lw G (fx name scope vars L a cd aD) n ρ false [dE,cS] [bL,cN])
 (hs:swapsWithSole [.Tuple [.Name x px,.Name y py] j tp] (.Tuple [dE,cS] j' ep) pos.line (fx name scope vars L a cd aD).env=pure false)
 (hw:swappedStores [.Tuple [.Name x px,.Name y py] j tp] (.Tuple [dE,cS] j' ep) (fx name scope vars L a cd aD).env=pure (some [x,y]))
 (r:Go G (fx name scope vars L a cd aD) n (fT vars x (.val bL) (fT vars y (.val cN) ρ)) ss Φ):
 Go G (fx name scope vars L a cd aD) n ρ (.Assign [.Tuple [.Name x px,.Name y py] j tp] (.Tuple [dE,cS] j' ep) pos::ss) Φ:=
 .of (bQ.ny _ _ (gQ C cx).1 (gQ C cy).1 a'.ev r hs hw)
def Go.lH(C:Cf G n Lb scope vars)(cx:mX scope vars ρ x=true)(cy:mX scope vars ρ y=true)(Mc:(nA vars x).getD 0≠(nA vars y).getD 0)(st:[dE,cS].all noStar=true)
 (Gf:Fw G (fx name scope vars L a cd aD) n ρ dE bL)(Ge:Fw G (fx name scope vars L a cd aD) n ρ cS cN)
 (hs:swapsWithSole [.Tuple [.Name x px,.Name y py] j tp] (.Tuple [dE,cS] j' ep) pos.line (fx name scope vars L a cd aD).env=pure false)
 (hw:swappedStores [.Tuple [.Name x px,.Name y py] j tp] (.Tuple [dE,cS] j' ep) (fx name scope vars L a cd aD).env=pure (some [x,y]))
 (r:∀l₁ l₂,Go G (fx name scope vars L a cd aD) n (fT vars x (.own l₁ bL) (fT vars y (.own l₂ cN) ρ)) ss Φ):
 Go G (fx name scope vars L a cd aD) n ρ (.Assign [.Tuple [.Name x px,.Name y py] j tp] (.Tuple [dE,cS] j' ep) pos::ss) Φ:=by
 have sx:[cS].all noStar=true:=by rw[Vu,Uw]at st;exact st.2
 have kx:=gQ (name:=name) (L:=L) (a:=a) (cd:=cd) (aD:=aD) C cx;have ky:=gQ (name:=name) (L:=L) (a:=a) (cd:=cd) (aD:=aD) C cy;exact .of (bQ.lH _ _ kx.1 ky.1 Gf.ev Ge.ev r kx.2 ky.2 Mc (cO st) (cO sx) hs hw)
noncomputable def Turn(Inv:Nat->RE->Prop)(i:Nat)(Φ:Ph):Ph:=λfl az=>match fl with
 |.next=>Inv (i+1) az
 |fl=>Φ fl az
noncomputable def JG(scope:Scope)(vars:List Str)(ρ:RE)(t bM:Expr):Bool:=mD (a8 fu) (Sx.of scope vars ρ) bM&&gk bM&&xt scope vars t&&ρ.length==vars.length
noncomputable abbrev I(Lb:jX)(scope:Scope)(vars:List Str)(ρ:RE)(e:Expr):List D:=kJ (sm Lb fu) (Sx.of scope vars ρ) (uv vars ρ) e
noncomputable abbrev KI(Lb:jX)(scope:Scope)(vars:List Str)(ρ:RE)(t e:Expr):Prop:=n6 (sm Lb fu) (so Lb fu) (Sx.of scope vars ρ) (uv vars ρ) t e
def Go.for(C:Cf G n Lb scope vars){α:Type}(xs:List α)(enc:α->D)(Inv:Nat->RE->Prop)(c:JG scope vars ρ t bM=true)(o:KI Lb scope vars ρ t bM)(v:I Lb scope vars ρ bM=xs.map enc)(hb:∀x∈xs,gS t (enc x))(h0:Inv 0 ρ)
 (turn:∀i x az,xs[i]? =some x->Inv i az->Go G (fx name scope vars L a cd aD) n (ry vars t (enc x) az) body (Turn Inv i Φ))
 (fin:∀az,Inv xs.length az->Go G (fx name scope vars L a cd aD) n az ss Φ):Go G (fx name scope vars L a cd aD) n ρ (.For t bM body [] pos::ss) Φ:=by
 unfold JG at c;simp only[Uw,VX]at c;(refine cu c λaB c4=>?_;obtain⟨⟨c1,c2⟩,c3⟩:=aB);have it:=rq (t:=t) C.BO.w (sound C.BO fu).1 (n4 (name:=name) (L:=L) (a:=a) (cd:=cd) (aD:=aD) C.fr c4) c1 o;have v':kJ (sm Lb fu) (Sx.of scope vars ρ) (uv vars ρ) bM=xs.map enc:=v;rw[v']at it;refine .of (bQ.xp Inv it h0 (λi d az hd hI=>?_) (λaz hI=>?_) (λx=>jL c2))
 .rw[Uc]at hd;obtain⟨x,hx,rfl⟩:=SS.mp hd;refine bH _ (v7 C c3 (hb x (To hx))) ((turn i x az hx hI).ex.mono λfl kG q=>?_);induction fl using Fl.casesOn with
  |next=>exact q
  |ret d=>exact q
 rw[US]at hI;exact fin az hI
end
def dj{p q:Prop}(h:p=q)(hq:q):p:=h▸hq
def fO(h:a=b)(h':b=d):a=d:=h.trans h'
def Gw(h:a=b)(h':b=d):a=d:=h.trans h'
def iG(h:a=b)(h':b=d):a=d:=h.trans h'
section
variable{G:Gd}{n:Nat}{Lb:jX}{name:Str}{scope:Scope}{vars:List Str}{L a:Addr}{cd:Value}{aD:XS}{ρ:RE}
def Ew.dq(C:Cf G n Lb scope vars)(q:Prop)(b:D)(hq:q)(hb:b=d)(c:autoParam (pE scope vars ρ e=true) tK)(o:autoParam (K Lb scope vars ρ e=q) tK)(v:autoParam (V Lb scope vars ρ e=b) tK):Ew G (fx name scope vars L a cd aD) n ρ k e d:=Ew.at C c (dj o hq) (v.trans hb)
def Ew.Gh(C:Cf G n Lb scope vars)(q:Prop)(b:D)(hq:q)(hb:b=d)(hd:d.atom=true)(c:autoParam (pE scope vars (Mine.j7 ρ) e=true) tK)(o:autoParam (K Lb scope vars (Mine.j7 ρ) e=q) tK)(v:autoParam (V Lb scope vars (Mine.j7 ρ) e=b) tK):Ew G (fx name scope vars L a cd aD) n ρ k e d:=Ew.D4 C c (dj o hq) (v.trans hb) hd
def Tw.dq(C:Cf G n Lb scope vars)(q:Prop)(b:Bool)(hq:q)(hb:b=d)(c:autoParam (uG scope vars ρ e=true) tK)(o:autoParam (KT Lb scope vars ρ e=q) tK)(v:autoParam (T? Lb scope vars ρ e=b) tK):Tw G (fx name scope vars L a cd aD) n ρ e d:=Tw.at C c (dj o hq) (v.trans hb)
def Tw.Gh(C:Cf G n Lb scope vars)(q:Prop)(b:Bool)(hq:q)(hb:b=d)(c:autoParam (uG scope vars (Mine.j7 ρ) e=true) tK)(o:autoParam (KT Lb scope vars (Mine.j7 ρ) e=q) tK)(v:autoParam (T? Lb scope vars (Mine.j7 ρ) e=b) tK):Tw G (fx name scope vars L a cd aD) n ρ e d:=Tw.D4 C c (dj o hq) (v.trans hb)
def bw.dq(C:Cf G n Lb scope vars)(q:Prop)(b:D)(hq:q)(hb:b=d)(c:autoParam (pE scope vars ρ (.ListComp elt (⟨t,bM,ifs,0⟩::rest) sc pos)=true) tK)(o:autoParam (K Lb scope vars ρ (.ListComp elt (⟨t,bM,ifs,0⟩::rest) sc pos)=q) tK)(v:autoParam (V Lb scope vars ρ (.ListComp elt (⟨t,bM,ifs,0⟩::rest) sc pos)=b) tK):
 bw G (fx name scope vars L a cd aD) n ρ (.ListComp elt (⟨t,bM,ifs,0⟩::rest) sc pos) (newList []) t bM rest sc d:=bw.at C c (dj o hq) (v.trans hb)
end
def pX(a b:Nat):((a%b:Nat):Int)=(a:Int).fmod b:=by
 by_cases hb:b=0
 .subst hb;simp
 rw[Sz _ (TY _)];simp
def sI(a b:Nat):((a/b:Nat):Int)=(a:Int).fdiv b:=by rw[SD _ (TY _)];simp
noncomputable abbrev fN:=Int×List Int
noncomputable def eN(r:fN):D:=.tup [.int r.1,aa r.2]
noncomputable def aY(rs:List fN):D:=.list (rs.map eN)
noncomputable def endsN:List (List Nat):=[[0],[1],[0,0],[0,1],[1,0],[1,1]]
noncomputable def lV(menu:List Int)(d:Nat):List Int:=[menu.getD (d%6) 0,menu.getD (d/6%3) 0,menu.getD (d/18%6) 0]
noncomputable def b4(n0:Int)(p:Nat)(one:Int):Bool:=decide (one≠0/\(p≠0\/one≠n0))
noncomputable def sF(menu names:List Int)(p d:Nat):fN:=(names.getD (p - 1) 0,(lV menu d).filter (b4 (names.getD 0 0) p))
noncomputable def zl(numbers names:List Int)(p d:Nat):fN:=(names.getD (p - 1) 0,(endsN.getD (d/108%6) []).map λk=>numbers.getD k 0)
noncomputable def fX(numbers names:List Int)(dr:List Nat)(p:Nat):List fN:=
 sF ([0]++numbers++names) names p (dr.getD p 0)::if 1<p then[zl numbers names p (dr.getD p 0)]else[]
noncomputable def iM(numbers names:List Int)(dr:List Nat):List fN:=(List.range 4).flatMap (fX numbers names dr)
noncomputable def bI(xs:List Nat):D:=.list (xs.map λ(k:Nat)=>.int k)
noncomputable def kY:D:=.tup (endsN.map λr=>.tup (r.map λ(k:Nat)=>.int k))
def gv{α:Type}{xs:List α}{enc:α->D}{j:Nat}{x:α}(hi:i=(j:Int))(h:xs[j]? =some x)(hz:xs.length<2^40):ax (.list (xs.map enc)) (.int i)/\idx (.list (xs.map enc)) (.int i)=enc x:=by subst hi;have cB:=(SF.mp h).1;refine⟨⟨by exact neg_natCast_le_natCast (map enc xs).length j,by simp;exact Us cB,by simpa using hz⟩,?_⟩;refine(?_:ke (xs.map enc) (j:Int) D.none=_);unfold ke;(refine V3 (if_pos (TY _)) ?_;simp only[Ut];refine V3 Su ?_;refine Eq.substr Uc ?_;refine Eq.substr h ?_);rfl
def wG{α:Type}{xs:List α}{enc:α->D}{j:Nat}{x:α}(hi:i=(j:Int))(h:xs[j]? =some x)(hz:xs.length<2^40):ax (.tup (xs.map enc)) (.int i)/\idx (.tup (xs.map enc)) (.int i)=enc x:=gv hi h hz
def DG{a b:D}(ha:a.pure=true)(hb:b.pure=true)[Decidable P](h:a=b↔P):a.eqv b=decide P:=by
 have h1:=jw a b ha hb;by_cases hp:P
 .rw[Vk hp];exact h1.mpr (h.mpr hp)
 rw[U1 hp];induction e:a.eqv b using Bool.casesOn with
 |false=>rfl
 |true=>exact absurd (h.mp (h1.mp e)) hp
def nk{a b:D}(ha:a.pure=true)(hb:b.pure=true)[Decidable P](h:a=b↔P):qX a b=decide P:=by rw[gK,DG ha hb h]
noncomputable def zV:List Str:=[S "draws",S "numbers",S "names",S "menu",S "ends",S "rules",S "place",S "row"]
def gb(a b:Int)(h:b≠0)(hb:b.natAbs<2^64):Builtin.divisionGoesByPylong a b=false:=by
 have h1:b.natAbs.log2<64:=(log2_lt (by exact(ar 1 2 [_] [_] [.n (.Q Qa K0),.i vP (.Q bA Qa),.i (.E Qa K0) (.Q bA (.g Qa))] (.n (.q Va K0))) h Tv Sv)).mpr hb;unfold Builtin.divisionGoesByPylong;have h0:(b==0)=false:=TH.mpr h;simp only[h0,Bool.and_eq_false_iff,SN];left;have:b.natAbs.log2/30+1<=300:=by exact(A2 [.l Va (.c 64),.e (.m 30 Vb) Va] (.e f9 (.c 300))) h1 (Vn _ _)
 simpa using this
def Bt{G:Gd}(W:Wd G){n:Nat}(dr:List Nat)(a b x y z:Int)(hd:dr.length=6):Fn G (Str.ofString "_law_rules") (n+1) [bI dr,aa [a,b],aa [x,y,z]] (aY (iM [a,b] [x,y,z] dr)):=by
 refine Fn.intro (name:=uY.name) (W.at_ uY) zV (λL l cd aD=>?_) (λu v w pm cd doc=>rfl) (by decide) (by show 3<=8;exact Tc rfl) (by decide);have C:Cf G n fA uY.scope zV:=⟨by z_go,ft W⟩;refine Go.ex (Go.assign C (d:=aa [0,a,b,x,y,z]) (by z_go) (Ew.dq C ((((True/\True)/\1<=sizeLine)/\True/\bf .Add (D.list [(D.int 0)]) (aa [a,b]))/\True/\bf .Add (ae .Add (D.list [(D.int 0)]) (aa [a,b])) (aa [x,y,z])) (ae .Add (ae .Add (D.list [(D.int 0)]) (aa [a,b])) (aa [x,y,z])) ?_ ?_) (by z_go) ?_)
 .exact⟨⟨⟨⟨Wa,Wa⟩,by decide⟩,Wa,by show 1+2<=sizeLine;decide⟩,Wa,by show 3+3<=sizeLine;decide⟩
 .rfl
 refine Go.assign C (d:=kY) (by z_go) (Ew.dq C (let bD:=(True/\(True/\True))/\2<=sizeLine;let ee:=(True/\True)/\1<=sizeLine;(ee/\(ee/\(bD/\(bD/\(bD/\(bD/\True))))))/\6<=sizeLine) (D.tup [(D.tup [(D.int 0)]),(D.tup [(D.int 1)]),(D.tup [(D.int 0),(D.int 0)]),(D.tup [(D.int 0),(D.int 1)]),(D.tup [(D.int 1),(D.int 0)]),(D.tup [(D.int 1),(D.int 1)])]) ?_ ?_) (by z_go) ?_
 .decide
 .rfl
 refine Go.fw C (by z_go) (Fw.list Lw.nil (by simp)) (by z_go) λlr=>?_;refine Go.for C (List.range 4) (λ(p:Nat)=>.int p) (λi ρ=>∃s1 s2,ρ=[.val (bI dr),.val (aa [a,b]),.val (aa [x,y,z]),.val (aa [0,a,b,x,y,z]),.val kY,.own lr (aY ((List.range i).flatMap (fX [a,b] [x,y,z] dr))),s1,s2]) (by z_go) (dj (q:=((True/\True)/\i6 false (S "range") [(D.int 4)])) (by z_go) ?_) (iG (b:=(kC (S "range") [(D.int 4)])) (by z_go) ?_) (λ_ _=>trivial) (pA _ _ rfl) ?_ ?_
 .exact⟨⟨Wa,Wa⟩,rfl⟩
 .rfl
 .intro p q az hp bx;obtain⟨s1,s2,rfl⟩:=bx;have Qy:q=p/\p<4:=by obtain⟨h1,h2⟩:=SF.mp hp;simp at h1 h2;exact⟨h2.symm,h1⟩
  obtain⟨rfl,Ln⟩:=Qy;obtain⟨d,yy⟩:∃d,dr[q]? =some d:=⟨_,SK ((A2 [.q Va (.c 6),.l Vb K4] (.l Vb Va)) hd Ln)⟩;have Jt:dr.getD q 0=d:=by rw[Su,yy];rfl
  have e1:=gv (enc:=λ(k:Nat)=>D.int k) rfl yy ((A1 [.q Va (.c 6)] (.l Va o9)) hd);have i1:idx (bI dr) (.int q)=.int (d:Int):=e1.2;have pick:∀(ms:List Int) (i:Int) (j:Nat),i=(j:Int)->j<ms.length->ms.length<100->ax (aa ms) (.int i)/\idx (aa ms) (.int i)=.int (ms.getD j 0):=λms i j h1 h2 h3=>by have:=gv (xs:=ms) (enc:=D.int) h1 (SK h2) (TZ ‹_› (Tc rfl));rw[Su,SK h2];exact this
  have m1:=pick [0,a,b,x,y,z] ((d:Int).fmod 6) (d%6) (by rw[pX];rfl) (VZ _ (VC _)) (Tc rfl);have m2:=pick [0,a,b,x,y,z] (((d:Int).fdiv 6).fmod 3) (d/6%3) (by rw[pX,sI];rfl) (TZ (VZ _ (VC _)) (Tc rfl)) (Tc rfl);have m3:=pick [0,a,b,x,y,z] (((d:Int).fdiv 18).fmod 6) (d/18%6) (by rw[pX,sI];rfl) (VZ _ (VC _)) (Tc rfl);have d1:=gb (d:Int) 6 (by decide) (by decide);have d2:=gb (d:Int) 18 (by decide) (by decide);have d3:=gb (d:Int) 108 (by decide) (by decide);refine Go.assign C (d:=aa (lV [0,a,b,x,y,z] d)) (by z_go) (Ew.dq C (let bD:=idx (bI dr) (.int q);let ee:=True/\True/\ax (bI dr) (.int q);let iY:=aa [0,a,b,x,y,z];let pf:=ae .FloorDiv bD (D.int 18);let yG:=ae .FloorDiv bD (D.int 6);((True/\(ee/\True/\bf .Mod bD (D.int 6))/\ax iY (ae .Mod bD (D.int 6)))/\((True/\((ee/\True/\bf .FloorDiv bD (D.int 6))/\True/\bf .Mod yG (D.int 3))/\ax iY (ae .Mod yG (D.int 3)))/\((True/\((ee/\True/\bf .FloorDiv bD (D.int 18))/\True/\bf .Mod pf (D.int 6))/\ax iY (ae .Mod pf (D.int 6)))/\True)))/\3<=sizeLine) (let bD:=aa [0,a,b,x,y,z];let ee:=idx (bI dr) (.int q);D.list [(idx bD (ae .Mod ee (D.int 6))),(idx bD (ae .Mod (ae .FloorDiv ee (D.int 6)) (D.int 3))),(idx bD (ae .Mod (ae .FloorDiv ee (D.int 18)) (D.int 6)))]) ?_ ?_) (by z_go) ?_
  .refine Eq.substr i1 ?_;exact⟨⟨⟨Wa,⟨⟨Wa,Wa,e1.1⟩,Wa,(by decide:(6:Int)≠0)⟩,m1.1⟩,⟨Wa,⟨⟨⟨Wa,Wa,e1.1⟩,Wa,(by decide:(6:Int)≠0),d1⟩,Wa,(by decide:(3:Int)≠0)⟩,m2.1⟩,⟨Wa,⟨⟨⟨Wa,Wa,e1.1⟩,Wa,(by decide:(18:Int)≠0),d2⟩,Wa,(by decide:(6:Int)≠0)⟩,m3.1⟩,Wa⟩,by decide⟩
  .rw[i1];refine(?_:D.list [idx _ (.int _),idx _ (.int _),idx _ (.int _)]=_);(refine Eq.substr m1.2 ?_;refine Eq.substr m2.2 ?_;refine Eq.substr m3.2 ?_);rfl
  generalize sA:(List.range q).flatMap (fX [a,b] [x,y,z] dr)=acc;have OY:acc.length<=8:=by
   rw[<-sA];have:∀q≤4,((List.range q).flatMap (fX [a,b] [x,y,z] dr)).length<=2*q:=λq=>by
    induction q with
    |zero=>simp
    |succ q ih=>
     intro hq;simp only[U4,TM,TU];have h1:=ih (VE ‹_›);have h2:(fX [a,b] [x,y,z] dr q).length<=2:=by unfold fX;split<;>exact Tc rfl
     simp only[Um,flatMap_nil,UX];exact(A3 [.e Va (.m 2 Vb),.e Vc K2] (.e (.a Va Vc) (.m 2 f9))) h1 h2
   have:=this q (VE ‹_›);exact(A2 [.l Va K4,.e Vb (.m 2 Va)] (.e Vb (.c 8))) Ln this
  have Nr:max (0:Int) ((q:Int) - 1)=((q - 1:Nat):Int):=by exact(A1 [] (.Q (.j K0 (.s bA K1)) (.o jd)))
  have n1:=pick [x,y,z] (max (0:Int) ((q:Int) - 1)) (q - 1) Nr (by simp;exact(A1 [.l Va K4] (.l jd K3)) Ln) (Tc rfl);have n0:=pick [x,y,z] 0 0 rfl (VC _) (Tc rfl);have hT:∀i:Int,(ag .NotEq (D.int i) (D.int 0)&&(ag .NotEq (D.tup [D.int q,D.int i]) (D.tup [D.int 0,idx (aa [x,y,z]) (D.int 0)])&&true))=b4 x q i:=λi=>by rw[n0.2];refine(?_:(!qX _ _&&(!qX _ _&&true))=_);rw[Bool.and_true,nk (P:=i=0) rfl rfl (by simp),nk (P:=q=0/\i=x) rfl rfl (by simp)];unfold b4;by_cases h1:i=0<;>by_cases h2:q=0<;>by_cases h3:i=x<;>lia
  have Jo:∀(xs:List Int),filter (λu=>ag .NotEq u (D.int 0)&&(ag .NotEq (D.tup [D.int q,u]) (D.tup [D.int 0,idx (aa [x,y,z]) (D.int 0)])&&true)) (xs.map D.int)=(xs.filter (b4 x q)).map D.int:=λxs=>by rw[filter_map];congr 2;funext i;exact hT i
  refine Go.append (l:=lr) (ds:=acc.map eN) (d:=eN (sF [0,a,b,x,y,z] [x,y,z] q d)) rfl (by z_go) (by z_go) (by z_go) (Ew.dq C (let bD:=D.tup [(D.int 0),(idx (aa [x,y,z]) (D.int 0))];let ee:=aa (lV [0,a,b,x,y,z] d);let iY:=ae .Sub (.int q) (D.int 1);let pf:=aa [x,y,z];((True/\((True/\((True/\True/\bf .Sub (.int q) (D.int 1))/\True))/\nJ (S "max") [(D.int 0),iY])/\ax pf (sb (S "max") [(D.int 0),iY]))/\(((True/\bB ee)/\(∀u1∈(aN ee),True/\((True/\True/\aV .NotEq u1 (D.int 0))/\((ag .NotEq u1 (D.int 0))=true->((((True/\(True/\True))/\2<=sizeLine)/\((True/\((True/\True/\ax pf (D.int 0))/\True))/\2<=sizeLine)/\aV .NotEq (D.tup [(.int q),u1]) bD)/\((ag .NotEq (D.tup [(.int q),u1]) bD)=true->True))))/\(((ag .NotEq u1 (D.int 0))&&((ag .NotEq (D.tup [(.int q),u1]) bD)&&true))=true->True))/\length (map (λu2=>u2) (filter (λu2=>((ag .NotEq u2 (D.int 0))&&((ag .NotEq (D.tup [(.int q),u2]) bD)&&true))) (aN ee)))<=sizeLine)/\True))/\2<=sizeLine) (D.tup [(idx (aa [x,y,z]) (sb (S "max") [(D.int 0),(ae .Sub (.int q) (D.int 1))])),(D.list (map (λu3=>u3) (filter (λu3=>((ag .NotEq u3 (D.int 0))&&((ag .NotEq (D.tup [(.int q),u3]) (D.tup [(D.int 0),(idx (aa [x,y,z]) (D.int 0))]))&&true))) (aN (aa (lV [0,a,b,x,y,z] d))))))]) ?_ ?_) (by simp[sizeLine];exact Vz ‹_› (by decide)) (by z_go) ?_
  .have hm:sb (S "max") [D.int 0,ae .Sub (D.int q) (D.int 1)]=.int (max 0 ((q:Int) - 1)):=rfl;have QD:nJ (S "max") [D.int 0,ae .Sub (D.int q) (D.int 1)]=True:=rfl;(refine Eq.substr hm ?_;refine Eq.substr QD ?_);refine⟨⟨⟨Wa,⟨⟨Wa,⟨Wa,Wa,Wa⟩,Wa⟩,Wa⟩,n1.1⟩,⟨⟨Wa,Wa⟩,λu hu=>?_,?_⟩,Wa⟩,by decide⟩
   .obtain⟨i,_,rfl⟩:=VB.mp (show u∈(lV [0,a,b,x,y,z] d).map D.int from hu);refine Eq.substr n0.2 ?_;exact⟨Wa,⟨⟨Wa,Wa,Wa⟩,λ_=>⟨⟨⟨⟨Wa,Wa,Wa⟩,by decide⟩,⟨⟨Wa,⟨Wa,Wa,n0.1⟩,Wa⟩,by decide⟩,rfl,rfl,by exact VC _⟩,λ_=>trivial⟩⟩,λ_=>trivial⟩
   rw[US];refine Vz (Td _ _) ?_;refine(?_:3<=sizeLine);decide
  .have hm:sb (S "max") [D.int 0,ae .Sub (D.int q) (D.int 1)]=.int (max 0 ((q:Int) - 1)):=rfl;rw[hm,n1.2];have:=Jo (lV [0,a,b,x,y,z] d);refine(?_:D.tup [_,D.list (map (λu=>u) (filter _ ((lV [0,a,b,x,y,z] d).map D.int)))]=_);rw[this,map_id'];rfl
  refine(?_:Go G _ n [.val (bI dr),.val (aa [a,b]),.val (aa [x,y,z]),.val (aa [0,a,b,x,y,z]),.val kY,.own lr (.list (acc.map eN++[eN (sF [0,a,b,x,y,z] [x,y,z] q d)])),.val (.int q),.val (aa (lV [0,a,b,x,y,z] d))] _ _);refine Go.ite (c:=decide (1<(q:Int))) (Tw.dq C (True/\True/\aV .Gt (.int q) (D.int 1)) (ag .Gt (.int q) (D.int 1)) ?_ ?_) (λh=>?_) λh=>Go.nil ?_
  .exact⟨Wa,Wa,Wa⟩
  .rfl
  .simp only[Ue]at h;have QQ:((d:Int).fdiv 108).fmod 6=((d/108%6:Nat):Int):=by rw[pX,sI];rfl
   obtain⟨en,HN⟩:∃en,endsN[d/108%6]? =some en:=⟨_,SK (VZ _ (by decide))⟩;have e2:=wG (enc:=λ(r:List Nat)=>D.tup (r.map λ(k:Nat)=>.int k)) QQ HN (by decide);have Js:∀k∈en,k<2:=by
    have:∀e∈endsN,∀k∈e,k<2:=by decide
    exact this en (To HN)
   have RC:en.length<=2:=by
    have:∀e∈endsN,e.length<=2:=by decide
    exact this en (To HN)
   have n2:=pick [x,y,z] ((q:Int) - 1) (q - 1) ((A1 [.L K1 bA] (.Q (.s bA K1) (.o jd))) h) (by simp;exact(A1 [.l Va K4] (.l jd K3)) Ln) (Tc rfl);have Pc:idx kY (ae .Mod (ae .FloorDiv (.int (d:Int)) (D.int 108)) (D.int 6))=D.tup (en.map λ(k:Nat)=>.int k):=e2.2;have hv:∀k,k<2->ax (aa [a,b]) (.int (k:Nat))/\idx (aa [a,b]) (.int (k:Nat))=.int ([a,b].getD k 0):=λk hk=>pick [a,b] k k rfl (by trivial) (Tc rfl);refine Go.append (l:=lr) (ds:=acc.map eN++[eN (sF [0,a,b,x,y,z] [x,y,z] q d)]) (d:=eN (zl [a,b] [x,y,z] q d)) rfl (by z_go) (by z_go) (by z_go) (Ew.dq C (((True/\(True/\True/\bf .Sub (.int q) (D.int 1))/\ax (aa [x,y,z]) (ae .Sub (.int q) (D.int 1)))/\((((True/\(((True/\True/\ax (bI dr) (.int q))/\True/\bf .FloorDiv (idx (bI dr) (.int q)) (D.int 108))/\True/\bf .Mod (ae .FloorDiv (idx (bI dr) (.int q)) (D.int 108)) (D.int 6))/\ax (kY) (ae .Mod (ae .FloorDiv (idx (bI dr) (.int q)) (D.int 108)) (D.int 6)))/\bB (idx (kY) (ae .Mod (ae .FloorDiv (idx (bI dr) (.int q)) (D.int 108)) (D.int 6))))/\(∀u1∈(aN (idx (kY) (ae .Mod (ae .FloorDiv (idx (bI dr) (.int q)) (D.int 108)) (D.int 6)))),True/\True/\(true=true->(True/\True/\ax (aa [a,b]) u1)))/\length (map (λu2=>(idx (aa [a,b]) u2)) (aN (idx (kY) (ae .Mod (ae .FloorDiv (idx (bI dr) (.int q)) (D.int 108)) (D.int 6)))))<=sizeLine)/\True))/\2<=sizeLine) (D.tup [(idx (aa [x,y,z]) (ae .Sub (.int q) (D.int 1))),(D.list (map (λu3=>(idx (aa [a,b]) u3)) (aN (idx (kY) (ae .Mod (ae .FloorDiv (idx (bI dr) (.int q)) (D.int 108)) (D.int 6))))))]) ?_ ?_) (by simp[sizeLine];exact Vz ‹_› (by decide)) (by z_go) (Go.nil ?_)
   ·(refine Eq.substr i1 ?_;refine Eq.substr Pc ?_);refine⟨⟨⟨Wa,⟨Wa,Wa,Wa⟩,n2.1⟩,⟨⟨⟨Wa,⟨⟨⟨Wa,Wa,e1.1⟩,Wa,(by decide:(108:Int)≠0),d3⟩,Wa,(by decide:(6:Int)≠0)⟩,e2.1⟩,Wa⟩,λu hu=>?_,?_⟩,Wa⟩,by decide⟩
    .obtain⟨k,hk,rfl⟩:=VB.mp hu;exact⟨Wa,Wa,λ_=>⟨Wa,Wa,(hv k (Js k hk)).1⟩⟩
    rw[US];refine(?_:(en.map _).length<=sizeLine);rw[US];exact Vz ‹_› (by decide)
   ·(refine Eq.substr i1 ?_;refine Eq.substr Pc ?_);refine(?_:D.tup [idx _ (.int _),D.list (map _ (en.map _))]=_);rw[n2.2,VA];have hg:endsN.getD (d/108%6) []=en:=by rw[Su,HN];rfl
    have:map ((λu=>idx (aa [a,b]) u)∘λ(k:Nat)=>D.int k) en=((endsN.getD (d/108%6) []).map λk=>[a,b].getD k 0).map D.int:=by rw[hg,VA];exact TK λk hk=>(hv k (Js k hk)).2
    rw[this];rfl
   refine du.nil (Go.nil ⟨.val (.int q),.val (aa (lV [0,a,b,x,y,z] d)),?_⟩);refine(?_:[_,_,_,_,_,Slot.own lr (D.list (acc.map eN++[eN (sF [0,a,b,x,y,z] [x,y,z] q d)]++[eN (zl [a,b] [x,y,z] q d)])),_,_]=_);have h1:1<q:=by exact VN.mp ‹_›
   simp only[U4,TM,sA];simp only[Um,flatMap_nil,UX,fX,Jt,if_pos h1];simp[aY]
  simp only[SN]at h;refine du.nil (Go.nil ⟨.val (.int q),.val (aa (lV [0,a,b,x,y,z] d)),?_⟩);have h1:¬1<q:=by exact(A1 [.n (.L K1 bA)] (.n (.l K1 Va))) h
  simp only[U4,TM,sA];simp only[Um,flatMap_nil,UX,fX,Jt,if_neg h1];simp[aY]
 intro az bx;obtain⟨s1,s2,rfl⟩:=bx;have e:flatMap (fX [a,b] [x,y,z] dr) (List.range (List.range 4).length)=iM [a,b] [x,y,z] dr:=by rw[Uv];rfl
 rw[e];exact Go.ret (d:=aY (iM [a,b] [x,y,z] dr)) ⟨Ev.Hy rfl⟩ rfl
section
variable{prog:Program}{w:World}{A:Around}{E:Value->Shared->Prop}{s:Shared}
def zM(hit:s.heap.IsTupleIter it l i)(hl:s.heap.IsTuple l items)(hx:items[i]? =some x)
 (hQ:∀h',h'.IsTupleIter it l (i+1)->Heap.SameBut it s.heap h'->Q x {s with heap:=h'}):wpAny (model prog w) A (Builtin.SmallTypes.nextOf (.ref it)) Q E s:=by
 have DZ:=hit.typeIs;refine bq hit λo ho hc hd=>?_;clear hit;refine uQ hl λol yJ _ nl xe=>?_;clear hl;unfold Builtin.SmallTypes.nextOf;refine VU (SP (name:=Str.ofString "__next__") DZ Sl (UQ Sl DZ PySem.F.entry_tuple_iterator_next ?_ (PySem.F.args_tuple_iterator_next_1 _)));refine(?_:wpAny _ _ (field (.ref it) 0>>=_) _ _ s);refine VU (VQ ho hd (x:=.ref l) rfl ?_);refine(?_:wpAny _ _ (if(Value.ref l==Value.none)=true then _ else _) _ _ s);rw[if_neg (show¬((Value.ref l==Value.none)=true)from Bool.false_ne_true)];refine(?_:wpAny _ _ (field (.ref it) 1>>=_) _ _ s);refine VU (VQ ho hd (x:=.int i 0) rfl ?_);refine(?_:wpAny _ _ (seqItems? (.ref l)>>=_) _ _ s);refine VU (Vq yJ xe ?_);simp only[Ut,hx];have Ql:=Heap.get?_update_self (h:=s.heap) (λo=>Obj.mapFields (λvs=>vs.setIfInBounds 1 (rawInt ((i:Int)+1))) o) ho (Obj.isFreed_of_fields (Obj.data_mapFields hd _));refine VU (wpAny_setField ho hd (Tc rfl) (VV ⟨x,rfl,VV (hQ _ ⟨_,Ql,(Obj.cls_mapFields ..).trans hc,?_⟩ (TS ..))⟩));rw[Obj.data_mapFields hd];rfl
def qM(hh:A.handled=none)(hit:s.heap.IsTupleIter it l i)(hl:s.heap.IsTuple l items)(hx:items[i]? =none)
 (hE:∀h' e,Heap.ExtBut it s.heap h'->(∃o,h'.get? e=some o/\o.cls=.type "StopIteration")->E (.ref e) {s with heap:=h'}):wpAny (model prog w) A (Builtin.SmallTypes.nextOf (.ref it)) Q E s:=by
 have DZ:=hit.typeIs;refine bq hit λo ho hc hd=>?_;clear hit;refine uQ hl λol yJ _ nl xe=>?_;clear hl;unfold Builtin.SmallTypes.nextOf;refine VU (SP (name:=Str.ofString "__next__") DZ Sl (UQ Sl DZ PySem.F.entry_tuple_iterator_next ?_ (PySem.F.args_tuple_iterator_next_1 _)));refine(?_:wpAny _ _ (field (.ref it) 0>>=_) _ _ s);refine VU (VQ ho hd (x:=.ref l) rfl ?_);refine(?_:wpAny _ _ (if(Value.ref l==Value.none)=true then _ else _) _ _ s);rw[if_neg (show¬((Value.ref l==Value.none)=true)from Bool.false_ne_true)];refine(?_:wpAny _ _ (field (.ref it) 1>>=_) _ _ s);refine VU (VQ ho hd (x:=.int i 0) rfl ?_);refine(?_:wpAny _ _ (seqItems? (.ref l)>>=_) _ _ s);refine VU (Vq yJ xe ?_);simp only[Ut,hx];refine VU (wpAny_rule (VU (wpAny_setField ho hd (VC _) ?_)));refine(?_:wpAny _ _ (newExc (.type "StopIteration") []>>=_) _ _ _);refine VU ?_;simp only[newExc,newTuple];refine VU (Uo ?_ (by size_fits));refine VU (m:=firstArgMember _ _) (wpAny_of_eq (a:=Value.none) (by first|rfl|(simp only[firstArgMember];rfl)) ?_);refine Uo ?_ (by size_fits);delta raiseNew;dsimp only;refine VU (wpAny_handled ?_)
 first|rw[show A.in1.handled=none from hh]|rw[hh]
 refine VU (VV (wpAny_throw ?_));exact hE _ _ (((TS ..).extBut.push _).push _) ⟨_,TG _ rfl,rfl⟩
structure ZT(z TI TO i1 i2 l1 l2:Addr)(xs ys:Array Value)(f0:Value)(i j:Nat)(h:Heap):Prop where
 z:IsZip h z TI TO f0
 ti:IsPair h TI (.ref i1) (.ref i2)
 E5:∃a b,IsPair h TO a b
 i1:h.IsTupleIter i1 l1 i
 i2:h.IsTupleIter i2 l2 j
 l1:h.IsTuple l1 xs
 l2:h.IsTuple l2 ys
def ZT.step{z TI TO i1 i2 l1 l2:Addr}(D:ZipApart z TI TO i1 i2 l1 l2)(x:ZT z TI TO i1 i2 l1 l2 xs ys f0 i j h)(hs:Heap.ExtBut z h h')(hz:IsZip h' z TI TO f1):ZT z TI TO i1 i2 l1 l2 xs ys f1 i j h':=
 ⟨hz,hs _ _ D.TIz x.ti,iw x.E5 λa b e=>⟨a,b,hs _ _ D.TOz e⟩,x.i1.extBut hs D.i1z,x.i2.extBut hs D.i2z,x.l1.extBut hs D.l1z,x.l2.extBut hs D.l2z⟩
def ZT.Ed{z TI TO i1 i2 l1 l2:Addr}(D:ZipApart z TI TO i1 i2 l1 l2)(x:ZT z TI TO i1 i2 l1 l2 xs ys f0 i j h)(hs:Heap.SameBut i1 h h')(hz:h'.IsTupleIter i1 l1 i'):ZT z TI TO i1 i2 l1 l2 xs ys f0 i' j h':=
 ⟨hs.extBut _ _ D.i1z.symm x.z,hs.extBut _ _ D.TIi1 x.ti,iw x.E5 λa b e=>⟨a,b,hs.extBut _ _ D.TOi1 e⟩,hz,x.i2.extBut hs.extBut D.i12.symm,x.l1.extBut hs.extBut D.l1i1,x.l2.extBut hs.extBut D.l2i1⟩
def ZT.JV{z TI TO i1 i2 l1 l2:Addr}(D:ZipApart z TI TO i1 i2 l1 l2)(x:ZT z TI TO i1 i2 l1 l2 xs ys f0 i j h)(hs:Heap.SameBut i2 h h')(hz:h'.IsTupleIter i2 l2 j'):ZT z TI TO i1 i2 l1 l2 xs ys f0 i j' h':=
 ⟨hs.extBut _ _ D.i2z.symm x.z,hs.extBut _ _ D.TIi2 x.ti,iw x.E5 λa b e=>⟨a,b,hs.extBut _ _ D.TOi2 e⟩,x.i1.extBut hs.extBut D.i12,hz,x.l1.extBut hs.extBut D.l1i2,x.l2.extBut hs.extBut D.l2i2⟩
def ZT.zk{z TI TO i1 i2 l1 l2:Addr}(D:ZipApart z TI TO i1 i2 l1 l2)(x:ZT z TI TO i1 i2 l1 l2 xs ys f0 i j h)(hs:Heap.SameBut TO h h')(hz:IsPair h' TO a b):ZT z TI TO i1 i2 l1 l2 xs ys f0 i j h':=
 ⟨hs.extBut _ _ D.TOz.symm x.z,hs.extBut _ _ D.TITO x.ti,⟨a,b,hz⟩,x.i1.extBut hs.extBut D.TOi1.symm,x.i2.extBut hs.extBut D.TOi2.symm,x.l1.extBut hs.extBut D.l1TO,x.l2.extBut hs.extBut D.l2TO⟩
def ZT.keeps{z TI TO i1 i2 l1 l2:Addr}(x:ZT z TI TO i1 i2 l1 l2 xs ys f0 i j h)(hk:∀b∈[z,TI,TO,i1,i2,l1,l2],∀o,h.get? b=some o->h'.get? b=some o):ZT z TI TO i1 i2 l1 l2 xs ys f0 i j h':=
 ⟨hk z (.head _) _ x.z,hk TI (.tail _ (.head _)) _ x.ti,iw x.E5 λa b e=>⟨a,b,hk TO (by simp) _ e⟩,ao x.i1 λo e r=>⟨o,hk i1 (by simp) _ e,r⟩,ao x.i2 λo e r=>⟨o,hk i2 (by simp) _ e,r⟩,ao x.l1 λo e r=>⟨o,hk l1 (by simp) _ e,r⟩,ao x.l2 λo e r=>⟨o,hk l2 (by simp) _ e,r⟩⟩
noncomputable def MS(z TO i1 i2:Addr)(h h':Heap):Prop:=∀c o,c≠z->c≠TO->c≠i1->c≠i2->h.get? c=some o->h'.get? c=some o
def xw{Q:Value->Shared->Prop}(D:ZipApart z TI TO i1 i2 l1 l2)(st:ZT z TI TO i1 i2 l1 l2 xs ys .none i j s.heap)(hx:xs[i]? =some x)(hy:ys[j]? =some y)
 (hQ:∀(h':Heap) (T:Addr),ZT z TI TO i1 i2 l1 l2 xs ys (rawInt T) (i+1) (j+1) h'->IsPair h' T x y->T≠z/\T≠TO/\T≠i1/\T≠i2->s.heap.objs.size<=T->MS z TO i1 i2 s.heap h'->Q (.ref T) {s with heap:=h'}):
 wpAny (model prog w) A (Builtin.«zip.__next__» ⟨[.ref z],[]⟩) (λfin s'=>∃v,fin=.done (.ret v)/\Q v s') E s:=by
 refine(?_:wpAny _ _ (field (.ref z) 2>>=_) _ _ _);refine VU (VQ st.z rfl (x:=.bool false) rfl ?_);refine(?_:wpAny _ _ (field (.ref z) 3>>=_) _ _ _);refine VU (VQ st.z rfl (x:=.ref TI) rfl ?_);refine VU (Vq st.ti rfl ?_);refine(?_:wpAny _ _ (Builtin.SmallTypes.ownedTupleIsFree (.ref z)>>=_) _ _ _);refine VU ?_;unfold Builtin.SmallTypes.ownedTupleIsFree;refine VU (VQ st.z rfl (x:=.none) rfl (VV ?_));rw[if_pos rfl];refine VU (wpAny_rule ?_);refine VU (VQ st.z rfl (x:=.ref TO) rfl ?_);refine VU (Ua st.z (VC _) λh₁ zx nQ=>?_);have iX:=st.step (f1:=.ellipsis) D nQ.extBut zx;refine VU ?_;simp only[zipIdx_cons,zipIdx_nil,forIn_cons,forIn_nil];refine VU (VU (wpAny_onRaise ?_));refine(?_:wpAny _ _ (Builtin.SmallTypes.nextOf (.ref i1)>>=_) _ _ _);refine VU (zM iX.i1 iX.l1 hx λh₂ FF kX=>VV ?_);have gX:=iX.Ed D kX FF;refine iw gX.E5 λa b nD=>?_;refine VU (Vq nD rfl ?_);refine VU (wpAny_updateSeq_pair nD λdM CC kW=>?_);have E7:=gX.zk (a:=x) (b:=b) D kW CC;have JZ:IsPair dM TO x b:=CC;refine VU (wpAny_letGo (VV ?_));refine VU (VU (wpAny_onRaise ?_));refine(?_:wpAny _ _ (Builtin.SmallTypes.nextOf (.ref i2)>>=_) _ _ _);refine VU (zM E7.i2 E7.l2 hy λmT M6 nP=>VV ?_);have Pw:=E7.JV D nP M6;have Eg:IsPair mT TO x b:=nP.extBut _ _ D.TOi2 JZ;refine VU (Vq Eg rfl ?_);refine VU (wpAny_updateSeq_pair Eg λeL IQ pZ=>?_);have E6:=Pw.zk (a:=x) (b:=y) D pZ IQ;have Ef:IsPair eL TO x y:=IQ;refine VU (wpAny_letGo (VV (VV ?_)));refine VU (Vq Ef rfl ?_);refine VU (wpAny_newTuple ?_);have hsz:eL.objs.size=s.heap.objs.size:=by simp only[pZ.1,nP.1,kW.1,kX.1,nQ.1]
 have k5:MS z TO i1 i2 s.heap eL:=λc o c1 c2 c3 c4 e=>pZ.extBut _ _ c2 (nP.extBut _ _ c4 (kW.extBut _ _ c2 (kX.extBut _ _ c3 (nQ.extBut _ _ c1 e))));have lt:∀{c o},eL.get? c=some o->eL.objs.size≠c:=λe=>Nat.ne_of_gt (VD e);have n1:eL.objs.size≠i1:=by refine ao E6.i1 λo e _=>?_;exact lt e
 have n2:eL.objs.size≠i2:=by refine ao E6.i2 λo e _=>?_;exact lt e
 refine(?_:wpAny _ _ (Builtin.SmallTypes.ownedTupleHandOut (.ref z) (.ref eL.objs.size)>>=_) _ _ _);refine VU ?_;unfold Builtin.SmallTypes.ownedTupleHandOut;have Kl:IsZip (eL.push {cls:=.type "tuple",data:=.seq #[x,y]}) z TI TO .ellipsis:=SR _ E6.z;refine VU (Ua Kl (VC _) λNj Kk ED=>?_);have G8:IsZip Nj z TI TO (rawInt eL.objs.size):=Kk;refine Ua G8 (Tc rfl) λCP Kj EC=>?_;have G7:IsZip CP z TI TO (rawInt eL.objs.size):=Kj;have up:∀c o,c≠z->eL.get? c=some o->CP.get? c=some o:=λc o c1 e=>EC.extBut _ _ c1 (ED.extBut _ _ c1 (SR _ e));have hT:IsPair CP eL.objs.size x y:=EC.extBut _ _ (lt E6.z) (ED.extBut _ _ (lt E6.z) (TG _ rfl));refine VV ⟨_,rfl,?_⟩;exact hQ CP eL.objs.size (E6.step D (λb o hb e=>up b o hb e) G7) hT ⟨lt E6.z,lt Ef,n1,n2⟩ (VH hsz.symm) λc o c1 c2 c3 c4 e=>up c o c1 (k5 c o c1 c2 c3 c4 e)
def AA(hh:A.handled=none)(D:ZipApart z TI TO i1 i2 l1 l2)(st:ZT z TI TO i1 i2 l1 l2 xs ys .none i j s.heap)(FZ:xs[i]? =none\/ys[j]? =none)
 (hE:∀h' e,MS z TO i1 i2 s.heap h'->(∃o,h'.get? e=some o/\o.cls=.type "StopIteration")->E (.ref e) {s with heap:=h'}):
 wpAny (model prog w) A (Builtin.«zip.__next__» ⟨[.ref z],[]⟩) Q E s:=by
 refine(?_:wpAny _ _ (field (.ref z) 2>>=_) _ _ _);refine VU (VQ st.z rfl (x:=.bool false) rfl ?_);refine(?_:wpAny _ _ (field (.ref z) 3>>=_) _ _ _);refine VU (VQ st.z rfl (x:=.ref TI) rfl ?_);refine VU (Vq st.ti rfl ?_);refine(?_:wpAny _ _ (Builtin.SmallTypes.ownedTupleIsFree (.ref z)>>=_) _ _ _);refine VU ?_;unfold Builtin.SmallTypes.ownedTupleIsFree;refine VU (VQ st.z rfl (x:=.none) rfl (VV ?_));rw[if_pos rfl];refine VU (wpAny_rule ?_);refine VU (VQ st.z rfl (x:=.ref TO) rfl ?_);refine VU (Ua st.z (VC _) λh₁ zx nQ=>?_);have iX:=st.step (f1:=.ellipsis) D nQ.extBut zx;refine VU ?_;simp only[zipIdx_cons,zipIdx_nil,forIn_cons,forIn_nil];refine VU (VU (wpAny_onRaise ?_));refine(?_:wpAny _ _ (Builtin.SmallTypes.nextOf (.ref i1)>>=_) _ _ _);induction hx:xs[i]? using Option.casesOn with
 |none=>
  refine VU (qM hh iX.i1 iX.l1 hx λh₂ e kX he=>?_);refine ao he λoe Fi MF=>?_;clear he;have Ez:IsZip h₂ z TI TO .ellipsis:=kX _ _ D.i1z.symm iX.z;have Mz:e≠z:=λx=>by(replace x:=V7 x;subst x);rw[Ez]at Fi;obtain rfl:=Option.some.inj Fi;lia
  refine Ua Ez (VC _) λdM _ kW=>hE dM e (λc o c1 _ c3 _ x=>kW.extBut _ _ c1 (kX _ _ c3 (nQ.extBut _ _ c1 x))) ⟨oe,kW.extBut _ _ Mz Fi,MF⟩
 |some x=>
  have hy:ys[j]? =none:=by rcases FZ with h|h;rw[hx]at h;exact yq h;exact h
  refine VU (zM iX.i1 iX.l1 hx λh₂ FF kX=>VV ?_);have gX:=iX.Ed D kX FF;refine iw gX.E5 λa b nD=>?_;refine VU (Vq nD rfl ?_);refine VU (wpAny_updateSeq_pair nD λdM CC kW=>?_);have E7:=gX.zk (a:=x) (b:=b) D kW CC;refine VU (wpAny_letGo (VV ?_));refine VU (VU (wpAny_onRaise ?_));refine(?_:wpAny _ _ (Builtin.SmallTypes.nextOf (.ref i2)>>=_) _ _ _);refine VU (qM hh E7.i2 E7.l2 hy λmT e nP he=>?_);refine ao he λoe Fi MF=>?_;clear he;have Ey:IsZip mT z TI TO .ellipsis:=nP _ _ D.i2z.symm E7.z;have Mz:e≠z:=λx=>by(replace x:=V7 x;subst x);rw[Ey]at Fi;obtain rfl:=Option.some.inj Fi;lia
  refine Ua Ey (VC _) λeL _ pZ=>hE eL e (λc o c1 c2 c3 c4 x=>pZ.extBut _ _ c1 (nP _ _ c4 (kW.extBut _ _ c2 (kX.extBut _ _ c3 (nQ.extBut _ _ c1 x))))) ⟨oe,pZ.extBut _ _ Mz Fi,MF⟩
def vi(hh:A.handled=none)(z TI TO i1 i2 l1 l2:Addr)(D:ZipApart z TI TO i1 i2 l1 l2)(xs ys:Array Value):
 WalksU prog w A z [z,TI,TO,i1,i2,l1,l2] [z,TO,i1,i2] (min xs.size ys.size) (λi vals=>∃x y,xs[i]? =some x/\ys[i]? =some y/\vals= #[x,y])
  (λi h=>ZT z TI TO i1 i2 l1 l2 xs ys .none i i h) (λi T h=>ZT z TI TO i1 i2 l1 l2 xs ys (rawInt T) (i+1) (i+1) h/\T≠z/\T≠TO/\T≠i1/\T≠i2) where
 sub:=λc hc=>by simp at hc⊢;rcases hc with rfl|rfl|rfl|rfl<;>simp
 frame:=λi h h' st hk=>st.keeps hk
 item:=λi s Q E hi st hQ=>by have Io:i<xs.size:=TZ hi (Nat.min_le_left ..);have Im:i<ys.size:=TZ hi (Nat.min_le_right ..);have hT:s.TypeIs (.ref z) "zip":=⟨_,st.z,rfl⟩;unfold pyNext;refine VU (wpAny_attempt (SP (name:=Str.ofString "__next__") hT Tn (UQ Tn hT PySem.F.entry_zip_next (xw D st (SJ Io) (SJ Im) λh' T a1 a2 a3 _ a4=>VV ?_) (PySem.F.args_zip_next_1 _))));exact hQ T #[xs[i],ys[i]] h' s.toks ⟨_,_,SJ Io,SJ Im,rfl⟩ ⟨_,a2,rfl,_,rfl⟩ ⟨a1,a3⟩ λc o hc e=>a4 c o (λx=>hc (by simp[x])) (λx=>hc (by simp[x])) (λx=>hc (by simp[x])) (λx=>hc (by simp[x])) e
 go:=λelts k pos i T s Q E hm hQ=>wpAny_letOwnedTupleGo_zip hm.1.z λh' HB cb=>hQ h' (hm.1.step D cb.extBut HB) λc o hc e=>cb.extBut _ _ (λx=>hc (by simp[x])) e
 apart:=λi T h hm hT=>by
  refine dk hm λ_ t1 t2 t3 t4=>?_;clear hm;simp at hT;rcases hT with rfl|rfl|rfl|rfl
  .exact t1 rfl
  .exact t2 rfl
  .exact t3 rfl
  exact t4 rfl
 done:=λs Q E st hQ=>by
  have FZ:xs[min xs.size ys.size]? =none\/ys[min xs.size ys.size]? =none:=by
   rcases Nat.le_total xs.size ys.size with h|h
   .exact .inl (by rw[U3 h];exact Array.getElem?_eq_none (VP _))
   exact .inr (by rw[UM h];exact Array.getElem?_eq_none (VP _))
  have hT:s.TypeIs (.ref z) "zip":=⟨_,st.z,rfl⟩;unfold pyNext;refine VU (wpAny_attempt (SP (name:=Str.ofString "__next__") hT Tn (UQ Tn hT PySem.F.entry_zip_next (AA hh D st FZ λh' e hk he=>?_) (PySem.F.args_zip_next_1 _))));refine ao he λo ho hc=>?_;clear he;refine VU (wpAny_isInstance (T:="StopIteration") (b:=true) ⟨o,ho,hc⟩ isSubtype_stop ?_);exact VV (hQ _ s.toks λc o hc e=>hk c o (λx=>hc (by simp[x])) (λx=>hc (by simp[x])) (λx=>hc (by simp[x])) (λx=>hc (by simp[x])) e)
 self:=λi s Q E st hQ=>wpAny_pyIter_zip st.z hQ
end
noncomputable def zi(l:Addr):Obj:={cls:=.type "tuple_iterator",data:=.fields #[.ref l,.int 0 0]}
noncomputable def zH(h:Heap)(l1 l2:Addr):Heap:=(((h.push (zi l1)).push (zi l2)).push {cls:=.type "tuple",data:=.seq #[.ref h.objs.size,.ref (h.push (zi l1)).objs.size]}).push {cls:=.type "tuple",data:=.seq #[.none,.none]}
noncomputable def zZ(h:Heap)(l1 l2:Addr):Obj:={cls:=.type "zip",data:=.fields #[.none,.bool false,.bool false,.ref ((h.push (zi l1)).push (zi l2)).objs.size,.ref (((h.push (zi l1)).push (zi l2)).push {cls:=.type "tuple",data:=.seq #[.ref h.objs.size,.ref (h.push (zi l1)).objs.size]}).objs.size]}
def GO(l1 l2:Addr)(xs ys:Array Value):
 Meets (Builtin.«zip.__new__» ⟨[.type "zip",.ref l1,.ref l2],[]⟩) (λ_ R s=>s.heap.IsTuple l1 xs/\s.heap.IsTuple l2 ys/\R (.ok (.ret (.ref (zH s.heap l1 l2).objs.size))) {s with heap:=(zH s.heap l1 l2).push (zZ s.heap l1 l2)}):=
 .of_wp λprog w A R s h=>by
  obtain⟨hp,g,d,tk,os⟩:=s;refine dW h λqV o8 h=>?_;have kK:=sub_zip;have Rd:Heap.IsTuple (Shared.heap ⟨hp,g,d,tk,os⟩) l1 xs:=qV;have Rc:Heap.IsTuple (Shared.heap ⟨hp.push {cls:=.type "tuple_iterator",data:=.fields #[.ref l1,.int 0 0]},g,d,tk,os⟩) l2 ys:=Heap.IsTuple.push o8 _
  wp_walk using wpAny_pyIter_tuple Rd,wpAny_pyIter_tuple Rc
  exact bH _ rfl h
section
variable{prog:Program}{w:World}{A:Around}{E:Value->Shared->Prop}{s:Shared}
def vh(qV:s.heap.IsTuple l1 xs)(o8:s.heap.IsTuple l2 ys)
 (h:∀h',ZT (s.heap.objs.size+4) (s.heap.objs.size+2) (s.heap.objs.size+3) s.heap.objs.size (s.heap.objs.size+1) l1 l2 xs ys .none 0 0 h'->h'.objs.size=s.heap.objs.size+5->
  (∀c o,s.heap.get? c=some o->h'.get? c=some o)->Q (.ref (s.heap.objs.size+4)) {s with heap:=h'}):wpAny (model prog w) A (call (.type "zip") [.ref l1,.ref l2]) Q E s:=by
 refine callType_new PySem.F.called_zip (by rfl) (PySem.F.typeCall_zip_2 _ _) (PySem.F.newCall_zip_2 _ _) (λobj=>PySem.F.args_object_init_3 obj _ _) PySem.F.entry_zip_new (GO l1 l2 xs ys) ⟨qV,o8,?_⟩;have z1:(s.heap.push (zi l1)).objs.size=s.heap.objs.size+1:=Vl ..;have z2:((s.heap.push (zi l1)).push (zi l2)).objs.size=s.heap.objs.size+2:=by rw[Vl,z1]
 have z3:(((s.heap.push (zi l1)).push (zi l2)).push {cls:=.type "tuple",data:=.seq #[.ref s.heap.objs.size,.ref (s.heap.push (zi l1)).objs.size]}).objs.size=s.heap.objs.size+3:=by rw[Vl,z2]
 have z4:(zH s.heap l1 l2).objs.size=s.heap.objs.size+4:=by unfold zH;rw[Vl,z3]
 have z5:((zH s.heap l1 l2).push (zZ s.heap l1 l2)).objs.size=s.heap.objs.size+5:=by rw[Vl,z4]
 have up:∀c o,s.heap.get? c=some o->((zH s.heap l1 l2).push (zZ s.heap l1 l2)).get? c=some o:=λc o x=>by unfold zH;exact SR _ (SR _ (SR _ (SR _ (SR _ x))))
 have g5:((zH s.heap l1 l2).push (zZ s.heap l1 l2)).get? (s.heap.objs.size+4)=some (zZ s.heap l1 l2):=by rw[<-z4];exact TG _ rfl
 have g4:((zH s.heap l1 l2).push (zZ s.heap l1 l2)).get? (s.heap.objs.size+3)=some {cls:=.type "tuple",data:=.seq #[.none,.none]}:=by rw[<-z3];unfold zH;exact SR _ (TG _ rfl)
 have g3:((zH s.heap l1 l2).push (zZ s.heap l1 l2)).get? (s.heap.objs.size+2)=some {cls:=.type "tuple",data:=.seq #[.ref s.heap.objs.size,.ref (s.heap.push (zi l1)).objs.size]}:=by rw[<-z2];unfold zH;exact SR _ (SR _ (TG _ rfl))
 have g2:((zH s.heap l1 l2).push (zZ s.heap l1 l2)).get? (s.heap.objs.size+1)=some (zi l2):=by rw[<-z1];unfold zH;exact SR _ (SR _ (SR _ (TG _ rfl)))
 have g1:((zH s.heap l1 l2).push (zZ s.heap l1 l2)).get? s.heap.objs.size=some (zi l1):=by unfold zH;exact SR _ (SR _ (SR _ (SR _ (TG _ rfl))))
 rw[z1]at g3;refine(?_:_/\_);rw[z4];have e5:zZ s.heap l1 l2={cls:=.type "zip",data:=.fields #[.none,.bool false,.bool false,.ref (s.heap.objs.size+2),.ref (s.heap.objs.size+3)]}:=by unfold zZ;(refine Eq.substr z2 ?_;refine Eq.substr z3 ?_;rfl)
 refine⟨⟨_,g5,rfl⟩,h _ ⟨?_,g3,⟨_,_,g4⟩,⟨_,g1,rfl,rfl⟩,⟨_,g2,rfl,rfl⟩,ao qV λo e r=>⟨o,up _ _ e,r⟩,ao o8 λo e r=>⟨o,up _ _ e,r⟩⟩ z5 up⟩;rw[e5]at g5;rw[e5];exact g5
end
def Tb.ne(T:Tb G h)(n:nv o)(e:h.get? b=some o):b≠G.cP:=λq=>by
 subst q;refine bq T.grown λ_ _ _ y=>?_;rw[y]at e;obtain rfl:=Option.some.inj e;rcases n with n|n
 .exact n rfl
 exact n _ rfl
def Tb.grow(T:Tb G h)(hx:Heap.ExtBut G.cP h h')(hp:∃m,ps=G.E9++m)(hc:h'.IsCode G.cC G.cP (ps++more))(ht:h'.TableAt G.cC G.cP (ps++more)):Tb G h':=by
 (refine aO hp λm aB=>?_;clear hp;subst aB);refine⟨λb o n e=>hx b o n (T.rest b o n e),m++more,?_,?_⟩
 .rw[<-Array.append_assoc];exact hc
 rw[<-Array.append_assoc];exact ht
def ZT.nv{z TI TO i1 i2 l1 l2:Addr}(x:ZT z TI TO i1 i2 l1 l2 xs ys f0 i j h)(hb:b∈[z,TI,TO,i1,i2,l1,l2]):∃o,h.get? b=some o/\nv o:=by
 refine iw x.E5 λa c e3=>?_;simp only[Vr,Uz,V5]at hb;rcases hb with rfl|rfl|rfl|rfl|rfl|rfl|rfl
 .exact bH _ x.z (c9 rfl)
 .exact bH _ x.ti (c9 rfl)
 .exact bH _ e3 (c9 rfl)
 .refine bq x.i1 λo e c _=>?_;exact bH o e (c9 c)
 .refine bq x.i2 λo e c _=>?_;exact bH o e (c9 c)
 .refine bq x.l1 λo e c _=>?_;exact bH o e (c9 c)
 refine bq x.l2 λo e c _=>?_;exact bH o e (c9 c)
def jz(n:Nat):passing (λ_=>true) n 0=List.range n:=by unfold passing;simp
section
variable{G:Gd}{F:Fx}{n:Nat}{ρ:RE}
noncomputable def sums(xs ys:List Int):List Int:=(xs.zip ys).map λp=>p.1+p.2
def Ev.Gv{k:Bool}(W:Wd G)(EK:F.env.code=.ref G.cC)
 (ht:F.env.kindOf (Str.ofString "tuple")=some .globalImplicit)(hz:F.env.kindOf (Str.ofString "zip")=some .globalImplicit)(st:[e1,e2].all noStar=true)
 (a:b8 G F n ρ true [e1,e2] [.tup (xs.map .int),.tup (ys.map .int)])
 (Cg:sc.isCoroutine=false)(Ku:gZ F.env sc.names []=some [])(j0:∀y∈sc.names,y.2≠ .cell)(h0:sc.names.lookup (Str.ofString ".0")=some NameKind.local)
 (Om:sc.names.lookup xa=some .local)(Ol:sc.names.lookup xb=some .local)(nD:xa≠xb)(gm:sc.kind=.function)(hsz:xs.length<=100)
 (QU:(xa==("__debug__":Str))=false)(QT:(xb==("__debug__":Str))=false):
 Ev G F n ρ k (.Call (.Name (Str.ofString "tuple") RS) [.GeneratorExp (.BinOp (.Name xa px) .Add (.Name xb py) pe) [⟨.Tuple [.Name xa pa,.Name xb pb] kt pt,.Call (.Name (Str.ofString "zip") RR) [e1,e2] [] pz,[],0⟩] sc gp] [] pos)
  (.tup ((sums xs ys).map .int)):=λA s X R S=>by
 have sx:[e2].all noStar=true:=by rw[Vu,Uw]at st;exact st.2
 refine Call_Name rfl (VY (ld_builtin S ht W.tuple.free W.tuple.here ?_) (by rfl));refine Ss ?_ (iL rfl) rfl;refine UK ?_ (iL rfl);refine wpAny_GeneratorExp_walksQT R.handled Cg (j4 Ku) j0 h0 Om Ol nD gm (TV (UB _ _) R.depth) ?_ (λx=>rfl);refine Call_Name rfl (VY (ld_builtin S hz W.zip.free W.zip.here ?_) (by rfl));refine Ss ?_ (cO st) (dT sx).1;refine ay (a A s X _ R S) (λvs aw h1 h2=>?_);have g:∃l1 as l2 bs,vs=[.ref l1,.ref l2]/\aw.heap.IsTuple l1 (toArray as)/\aK G aw.heap (F.lk true X) (xs.map .int) as/\aw.heap.IsTuple l2 (toArray bs)/\aK G aw.heap (F.lk true X) (ys.map .int) bs:=by obtain⟨v,u,rfl,hv,hu⟩:=af.mp h2;(refine bZ (af.mp hu) λv' u' aB pM pN=>?_;subst aB);obtain rfl:=aE.mp pN;(refine dw (aQ.mp hv) λl1 as aB _ qV BS=>?_;subst aB);(refine dw (aQ.mp pM) λl2 bs aB _ o8 w7=>?_;subst aB);exact⟨l1,as,l2,bs,rfl,qV,BS,o8,w7⟩
 clear h2;refine mask λC kk=>?_;refine GJ g λl1 as l2 bs fS=>?_;refine dk fS λaB qV BS o8 w7=>?_;clear g fS;refine kk (Eq.substr aB ?_);clear kk;have S1:=S.ext h1;refine vh qV o8 λh₂ zt Oi rW=>?_;have Fe:l1<aw.heap.objs.size:=ao qV λ_ e _=>VD e;have Lh:l2<aw.heap.objs.size:=ao o8 λ_ e _=>VD e;have D:=zipApart_new Fe Lh;generalize P8:aw.heap.objs.size+4=z at zt D⊢;generalize MI:aw.heap.objs.size+2=TI at zt D;generalize Q9:aw.heap.objs.size+3=TO at zt D;generalize My:aw.heap.objs.size+1=i2 at zt D;generalize HL:aw.heap.objs.size=i1 at zt D Oi P8 MI Q9 My Fe Lh;revert z TI TO i2 i1;refine nz ?_;intros;refine wpAny_pyIter_zip zt.z ?_;have Pm:Ext G s {aw with heap:=h₂}:=h1.trans (.full rW rfl id);have S2:St G F X ρ h₂:=S.ext Pm;have T2:Tb G h₂:=S2.gs.tb;have pC:∀b∈[z,TO,i1,i2],i1<=b:=λb hb=>by revert b;refine mA ?_ (mA ?_ (mA ?_ (mA ?_ mN)))<;>lia
 have QN:∀b,i1<=b->aw.heap.get? b=none:=λb hb=>cz _ (le_of_eq_of_le HL hb);refine ao G.nolimit λPW F1 NF=>?_;have CT:∀h,Tb G h->h.NoLimit:=λh T=>⟨PW,Ns.b4 F1 (T.base _),NF⟩;refine⟨CT _ T2,?_⟩;have core:∀(code:Value) (dM:Heap) (tk:Nat),Heap.ExtBut G.cP h₂ dM->h₂.objs.size<=dM.objs.size->Tb G dM->wpAny (M G) A (builtinsFor F.env.globals F.env.builtins) (λbi df=>
  ∃I fp wr yT Pt EW MR pz Fv,Value.ref z=.ref I/\(∀A':Around,A'.handled=none->WalksU G.prog G.w A' I fp wr yT Pt EW MR)/\(∀i vals,Pt i vals->∃va vb,vals= #[va,vb])/\EW 0 df.heap/\(∀b∈fp,b<df.heap.objs.size)/\df.heap.NoLimit/\cStatics∉wr/\
   (∀FR:Heap,(∀b o,df.heap.get? b=some o->FR.get? b=some o)->
    QuietGenT G.prog G.w (genEnv sc [] df.heap.objs.size code bi F.env) xa xb [] (.BinOp (.Name xa px) .Add (.Name xb py) pe) (List.range df.heap.objs.size) wr Pt pz Fv FR)/\
   (∀a eL tk gs,gs.bare=true->df.heap.objs.size<a->eL.objs.size=a+1->(∀b o,df.heap.get? b=some o->eL.get? b=some o)->
    WalksS G.prog G.w A.in4 a (a::df.heap.objs.size::List.range df.heap.objs.size) (df.heap.objs.size::wr) (GenOnlyQ df.gens.size) (passing pz yT 0).length
     (λj y=>∃i,(passing pz yT 0)[j]? =some i/\Fv i y) (GenAt G.prog G.w A.in4 a df.gens.size df.heap.objs.size (List.range df.heap.objs.size) wr pz yT Fv)->
    GenAt G.prog G.w A.in4 a df.gens.size df.heap.objs.size (List.range df.heap.objs.size) wr pz yT Fv 0 {df with gens:=df.gens.push gs,toks:=tk,heap:=eL}->
    wpAny (M G) A (spliced (backTo pos (starEach [] F.env))) (λvs s'=>wpAny (M G) A (call (.type "tuple") (Value.ref a::vs)) (λv s'=>Ext G s s'/\Rep G s'.heap (F.lk k X) (.tup ((sums xs ys).map .int)) v) ff s') ff {df with gens:=df.gens.push gs,toks:=tk,heap:=eL})) ff {aw with heap:=dM,toks:=tk}:=by
  intro code dM tk Md Nx T3;have PO:dM.Ns mainGlobals G.mg:=Ns.b4 G.g (T3.base _);have PJ:dM.get? G.bm=some G.ob:=T3.base _ _ (c9 G.bmod.cls) G.bmod.obj;rw[S.ok.globals];refine wpAny_builtinsFor (s:={aw with heap:=dM,toks:=tk}) PO G.bmod.name G.bmod.ne PJ G.bmod.cls G.bmod.dict G.bmod.data ?_;have NX:ZT z TI TO i1 i2 l1 l2 as.toArray bs.toArray .none 0 0 dM:=zt.keeps λb hb o e=>Md b o (by refine ao (zt.nv hb) λo' e' n'=>?_;exact T2.ne n' e') e;have HI:min as.toArray.size bs.toArray.size=(xs.zip ys).length:=by simp[BS.length,w7.length]
  have W':=λ(A':Around) (hA:A'.handled=none)=>vi (prog:=G.prog) (w:=G.w) hA z TI TO i1 i2 l1 l2 D as.toArray bs.toArray;rw[HI]at W';have hint:∀(i:Nat) (us:List Value) (zs:List Int) (u:Value),aK G aw.heap (F.lk true X) (zs.map .int) us->us.toArray[i]? =some u->∃x t,zs[i]? =some x/\u=.int x t:=λi us zs u hr e=>by
   have hi:i<zs.length:=by have h1:i<us.toArray.size:=(SA.mp e).1;have h2:=hr.length;simp at h1 h2;exact T1 h1 h2
   refine ao (hr.get (i:=i) (d:=.int zs[i]) (by simp[hi])) λu' f1 f2=>?_;have:u=u':=by simp at e;rw[f1]at e;obtain rfl:=Option.some.inj e;rfl
   (replace this:=V7 this;subst this)
   refine aO (ak.mp f2) λt ht=>?_;exact sQ (zs[i]) t (SK hi) ht
  refine⟨z,_,_,_,_,_,_,λ_=>true,λi y=>∃x y' t,xs[i]? =some x/\ys[i]? =some y'/\y=.int (x+y') t,rfl,W',?_,NX,?_,CT _ T3,?_,?_,?_⟩
  .intro i vals bx;refine bZ bx λx y _ _ e=>?_;clear bx;exact pA x y e
  .intro b hb;refine ao (NX.nv hb) λo e _=>?_;exact VD e
  .intro hm;have h1:=pC _ hm;refine fq F1 λo es ep e hd _=>?_;clear F1;have h2: @LT.lt Nat _ cStatics aw.heap.objs.size:=VD (S1.gs.base _ _ (fY hd) e);exact(A3 [.q Va Vb,.e Vb Vc,.l Vc Va] .f) HL h1 h2
  .intro FR Pk;refine⟨λA' E' i va vb au m₂ hA hP hn OE OD hk=>wpAny_tests_nil ⟨rfl,au.heap,au.toks,rfl,λ_ _ e=>e⟩,λA' E' i va vb au m₂ hA hP _ hn OE OD hk=>?_⟩;refine bZ hP λx y hx hy e=>?_;clear hP;obtain⟨e1,e2⟩:va=x/\vb=y:=by simpa using V4 Array.toList e
   subst e1 e2;(refine d4 (hint i as xs va BS hx) λix tx Io aB=>?_;subst aB);(refine d4 (hint i bs ys vb w7 hy) λiy ty Im aB=>?_;subst aB);refine wpAny_BinOp (VY (wpAny_loadName_local gm Om hn OE ?_) QU);refine VY (wpAny_loadName_local gm Ol hn OD ?_) QT;exact PyProof.Rows.add_int ⟨⟨ix,iy,_,Io,Im,rfl⟩,_,_,rfl,λ_ _ e=>e⟩
  intro ga eL RO gs QM Lx Nk Lr Wg MH;refine U8 ?_;refine call_tuple_gen (hsz:=by rw[jz,Uv];simp[sizeLine];exact(A2 [.e Va q0] (.e (.i Va Vb) kF)) hsz) Wg.in4_3 (λi s' st=>st.1.typeIs) MH (λb hb=>?_) Ub λsf acc hm sA=>?_
  .refine(?_:b<eL.objs.size);rw[Nk];rcases Vr.mp hb with rfl|hb
   .exact UG _
   rcases Vr.mp hb with rfl|hb
   .exact Uj Lx
   exact Uj (Nat.lt_trans (Vm.mp hb) Lx)
  -- the end
  have Ll:∀b∈(dM.objs.size::[z,TO,i1,i2]:List Addr),i1<=b:=λb hb=>by
   rcases Vr.mp hb with rfl|hb
   .exact(A3 [.q Va (.a Vb (.c 5)),.e Va Vc] (.e Vb Vc)) Oi Nx
   exact pC b hb
  have Ie:∀b,b∈(dM.objs.size::[z,TO,i1,i2]:List Addr)->G.h₀.get? b=none:=λb hb=>S1.gs.tb.none (QN b (Ll b hb));have T5:Tb G eL:=T3.keeps Lr;have T6:Tb G sf.heap:=T5.apart (wr:=λb=>b∈(dM.objs.size::[z,TO,i1,i2]:List Addr)) (λb o hb e=>hm.heap b o hb e) Ie;have Ld:∀b o,aw.heap.get? b=some o->b∉(dM.objs.size::[z,TO,i1,i2]:List Addr):=λb o e hb=>by have:=Ll b hb;have h2: @LT.lt Nat _ b aw.heap.objs.size:=VD e;exact(A3 [.q Va Vb,.e Vb Vc,.l Vc Va] .f) HL this h2
  have NZ:Ext G aw {sf with heap:=sf.heap.push {cls:=.type "tuple",data:=.seq acc}}:=by
   refine⟨λb o nn e=>?_,λb o e=>?_,λ_=>T6.keeps λb o e=>SR _ e,hm.os,λg=>hm.gens.bare (AllBare.push g QM)⟩
   .exact SR _ (hm.heap b o (Ld b o e) (Lr b o (Md b o (T2.ne nn (rW b o e)) (rW b o e))))
   by_cases q:b=G.cP
   .subst q;refine bq T3.grown λ_ _ _ y3=>?_;exact⟨_,SR _ (hm.heap _ _ (Ld _ o e) (Lr _ _ y3))⟩
   exact⟨o,SR _ (hm.heap b o (Ld b o e) (Lr b o (Md b o q (rW b o e))))⟩
  have N0:=h1.trans NZ;refine⟨N0,aQ.mpr ⟨_,acc.toList,rfl,?_,⟨_,TG _ rfl,rfl,0,by simp⟩,?_⟩⟩
  .have S6:=S.ext N0;intro q;have q':=S.uh _ q;refine aO (S.gs.live _ q') λo e=>?_;have h5:=(hm.heap _ o (Ld _ _ (h1.there _ _ e).choose_spec));refine aO (h1.there _ _ e) λFH dE=>?_;refine aO (NZ.there _ _ dE) λmR cS=>?_;have l1:=VD dE;have l2:aw.heap.objs.size<=sf.heap.objs.size:=by
    have cB:i1<sf.heap.objs.size\/i1<=sf.heap.objs.size:=by
     refine .inr ?_;have hC:eL.get? ga≠none:=by intro hn;have:=MH.1;refine eR this λo nm qn e _=>?_;clear this;rw[hn]at e;exact cG e
     refine eR MH.1 λo nm qn eg _=>?_;have QL:ga∉(dM.objs.size::[z,TO,i1,i2]:List Addr):=λhb=>by
      have hle:∀b∈(dM.objs.size::[z,TO,i1,i2]:List Addr),b<=dM.objs.size:=by refine mA (VP _) (mA ?_ (mA ?_ (mA ?_ (mA ?_ mN))))<;>lia
      exact absurd Lx (V1.mpr (hle ga hb))
     have h7:(ga:Nat)<sf.heap.objs.size:=VD (hm.heap ga o QL eg);have RG:(dM.objs.size:Nat)<ga:=Lx;lia
    exact(A3 [.q Va Vb,.o (.l Vb Vc) (.e Vb Vc)] (.e Va Vc)) HL cB
   have l3:(sf.heap.objs.size:Nat)<aw.heap.objs.size:=l1;exact absurd ‹_› (V1.mpr ‹_›)
  refine aK.n7 ?_ λi d v e1 e2=>?_
  .have:=sA.1;rw[jz,Uv]at this;simp[sums,this]
  rw[Uc]at e1;obtain⟨y,hy,rfl⟩:=SS.mp e1;obtain⟨j,hj,x,y',t,hx,HC,rfl⟩:=sA.2 i v (by simpa using e2);rw[jz]at hj;have Cc:j=i:=by refine aO (SF.mp hj) λcB e=>?_;simp at e;exact e.symm
  (replace Cc:=V7 Cc;subst Cc)
  have:y=x+y':=by unfold sums at hy;rw[Uc]at hy;(refine ao (SS.mp hy) λp hp aB=>?_;clear hy;subst aB);refine cu (SI.mp hp) λf1 f2=>?_;rw[hx]at f1;rw[HC]at f2;obtain rfl:=Option.some.inj f1;obtain rfl:=Option.some.inj f2;rfl
  rw[this];exact bO
 refine ao T2.grown λmore xg Qo=>?_;induction hf:codeAmong gp (G.E9++more).toList using Option.casesOn with
 |some c'=>exact wpAny_genexprCode_hit EK xg hf (core c' h₂ aw.toks (Heap.ExtBut.refl _ _) (VP _) T2)
 |none=>refine wpAny_genexprCodeX EK xg Qo hf λc' dM tk hx w9 cB Hb _ Kn _=>core _ dM tk hx (Vz w9 (VE cB)) (T2.grow hx ⟨more,rfl⟩ Hb Kn)
end
noncomputable def d8{κ α:Type}[DecidableEq κ](aH:List (κ×α))(k:κ)(d:α):List (κ×α):=if aH.any (λkv=>kv.1=k)then aH.map (λkv=>if kv.1=k then(kv.1,d)else kv)else aH++[(k,d)]
def js{κ α:Type}[DecidableEq κ](f:α->D)(aH:List (κ×α))(k:κ)(d:α):put (aH.map λkv=>(kv.1,f kv.2)) k (f d)=(d8 aH k d).map λkv=>(kv.1,f kv.2):=by
 unfold put d8;rw[any_map];have:(λkv:κ×D=>decide (kv.1=k))∘(λkv:κ×α=>(kv.1,f kv.2))=λkv=>decide (kv.1=k):=rfl;rw[this];split
 ·simp only[VA,VA];apply TK;intro kv _;simp only[Function.comp];split<;>rfl
 simp
def fi{κ α:Type}[DecidableEq κ](f:α->D)(aH:List (κ×α))(k:κ):look (aH.map λkv=>(kv.1,f kv.2)) k=(look aH k).map f:=by unfold look;simp only[find?_map,Option.map_map,Option.map_map];rfl
def lz{κ α:Type}[DecidableEq κ](aH:List (κ×α))(k:κ)(d:α):(d8 aH k d).length<=aH.length+1:=by unfold d8;split<;>simp
inductive Cv where
 |n (i:Int)
 |p (a b:Int)
 deriving DecidableEq
noncomputable def Cv.pair:Cv->Bool
 |.n _=>false
 |.p _ _=>true
noncomputable def Cv.add:Cv->Cv->Cv
 |.n a,.n b=>.n (b+a)
 |.p a b,.p c d=>.p (a+c) (b+d)
 |v,_=>v
noncomputable def lT:Cv->D
 |.n i=>.int i
 |.p a b=>.tup [.int a,.int b]
def Cv.AV{a b:Cv}(h:a.pair=b.pair):(a.add b).pair=a.pair:=by induction a using Cv.casesOn<;>induction b using Cv.casesOn<;>first|rfl|cases h
noncomputable abbrev Cs:=List (Int×Cv)
noncomputable abbrev cE(kv:Int×Cv):Int×D:=(kv.1,lT kv.2)
noncomputable def j8(c:Cs):D:=.aG (c.map cE)
noncomputable def Cs.kind(b:Bool)(c:Cs):Prop:=∀kv∈c,kv.2.pair=b
def AR{κ α:Type}[DecidableEq κ]{aH:List (κ×α)}{k:κ}{d:α}{x:κ×α}(h:x∈d8 aH k d):x∈aH\/x=(k,d):=by
 unfold d8 at h;split at h
 .refine ao (VB.mp h) λy hy e=>?_;split at e
  .rename_i q;rw[<-e,q];exact .inr rfl
  rw[<-e];exact .inl hy
 rcases UU.mp h with q|q
 .exact .inl q
 exact .inr (by simpa using q)
def Cs.kind.put{b:Bool}{c:Cs}(h:Cs.kind b c)(k:Int){v:Cv}(hv:v.pair=b):Cs.kind b (d8 c k v):=λx hx=>by
 rcases AR hx with q|q
 .exact h _ q
 rw[q];exact hv
def gg{κ α:Type}[DecidableEq κ]{aH:List (κ×α)}{k:κ}{v:α}(h:look aH k=some v):∃x∈aH,x.2=v/\x.1=k:=by unfold look at h;refine ao (SS.mp h) λx h1 h2=>?_;exact dG x (mem_of_find?_eq_some h1) h2 (by have:=find?_some h1;simpa using this)
noncomputable def fQ(acc:Cs)(kv:Int×Cv):Cs:=d8 acc kv.1 (match look acc kv.1 with|some w=>kv.2.add w|none=>kv.2)
noncomputable def hO(t:Cs):Cs:=t.foldl (λacc kv=>d8 acc kv.1 kv.2) []
noncomputable def iA(t s:Cs):Cs:=s.foldl fQ (hO t)
def yi(t:Cs)(i:Nat)(kv:Int×Cv)(h:t[i]? =some kv):hO (t.take (i+1))=d8 (hO (t.take i)) kv.1 kv.2:=by unfold hO;simp only[Ug,h,Ui];rfl
def BJ(t s:Cs)(i:Nat)(kv:Int×Cv)(h:s[i]? =some kv):iA t (s.take (i+1))=fQ (iA t (s.take i)) kv:=by unfold iA;simp only[Ug,h,Ui];rfl
def tJ(t:Cs):(hO t).length<=t.length:=by
 have:∀(t acc:Cs),(t.foldl (λacc kv=>d8 acc kv.1 kv.2) acc).length<=acc.length+t.length:=λt=>by
  induction t with
  |nil=>simp
  |cons x t ih=>intro acc;have:=ih (d8 acc x.1 x.2);have h2:=lz acc x.1 x.2;simp only[UY,Ux];exact(A4 [.e Va nF,.e Vb uo] (.e Va (.a Vd q8))) this h2
 simpa[hO]using this t []
def DP(t s:Cs):(iA t s).length<=t.length+s.length:=by
 have:∀(s acc:Cs),(s.foldl fQ acc).length<=acc.length+s.length:=λs=>by
  induction s with
  |nil=>simp
  |cons x s ih=>intro acc;have h:=ih (fQ acc x);have h2:(fQ acc x).length<=acc.length+1:=lz ..;simp only[UY,Ux];exact(A4 [.e Va nF,.e Vb uo] (.e Va (.a Vd q8))) h h2
 have h1:=this s (hO t);have h2:=tJ t;unfold iA;exact(A4 [.e Va nF,.e Vb Vd] (.e Va (.a Vd Vc))) h1 h2
def yj(h:Cs.kind b t):Cs.kind b (hO t):=by
 have:∀(t acc:Cs),Cs.kind b t->Cs.kind b acc->Cs.kind b (t.foldl (λacc kv=>d8 acc kv.1 kv.2) acc):=λt=>by
  induction t with
  |nil=>intro acc _ h;exact h
  |cons x t ih=>intro acc h1 h2;exact ih _ (λy hy=>h1 y (.tail _ hy)) (h2.put _ (h1 x (.head _)))
 exact this t [] h (λ_ q=>by exact pL q)
def uf{b:Bool}{acc:Cs}(h:Cs.kind b acc){kv:Int×Cv}(hv:kv.2.pair=b):Cs.kind b (fQ acc kv):=by
 refine h.put _ ?_;induction e:look acc kv.1 using Option.casesOn with
 |none=>exact hv
 |some w=>
  refine bq (gg e) λx hx h2 _=>?_;have:kv.2.pair=w.pair:=by simp only[hv,<-h2,h x hx]
  refine(?_:(kv.2.add w).pair=b);(refine V3 (Cv.AV this) ?_;exact hv)
def BK(h:Cs.kind b t)(h':Cs.kind b s):Cs.kind b (iA t s):=by
 have:∀(s acc:Cs),Cs.kind b s->Cs.kind b acc->Cs.kind b (s.foldl fQ acc):=λt=>by
  induction t with
  |nil=>intro acc _ h;exact h
  |cons x t ih=>intro acc h1 h2;exact ih _ (λy hy=>h1 y (.tail _ hy)) (uf h2 (h1 x (.head _)))
 exact this s _ h' (yj h)
structure Iw(G:Gd)(F:Fx)(n:Nat)(ρ:RE)(t e:Expr)(ds:List D):Prop where
 ev:ef G F n ρ false t e ds
section
variable{G:Gd}{n:Nat}{Lb:jX}{name:Str}{scope:Scope}{vars:List Str}{L a:Addr}{cd:Value}{aD:XS}{ρ:RE}{ss:List Stmt}{Φ:Ph}
def Go.F7(C:Cf G n Lb scope vars){α:Type}(xs:List α)(enc:α->D)(Inv:Nat->RE->Prop)(c:xt scope vars t=true)(c2:gk bM=true)(it:Iw G (fx name scope vars L a cd aD) n ρ t bM (xs.map enc))(hb:∀x∈xs,gS t (enc x))(h0:Inv 0 ρ)
 (turn:∀i x az,xs[i]? =some x->Inv i az->Go G (fx name scope vars L a cd aD) n (ry vars t (enc x) az) body (Turn Inv i Φ))
 (fin:∀az,Inv xs.length az->Go G (fx name scope vars L a cd aD) n az ss Φ):Go G (fx name scope vars L a cd aD) n ρ (.For t bM body [] pos::ss) Φ:=by
 refine .of (bQ.xp Inv it.ev h0 (λi d az hd hI=>?_) (λaz hI=>?_) (λx=>jL c2))
 .rw[Uc]at hd;obtain⟨x,hx,rfl⟩:=SS.mp hd;refine bH _ (v7 C c (hb x (To hx))) ((turn i x az hx hI).ex.mono λfl kG q=>?_);induction fl using Fl.casesOn with
  |next=>exact q
  |ret d=>exact q
 rw[US]at hI;exact fin az hI
def Iw.items(c:iD o=true)(hl:(apos.endLine==pos.line)=true)(h:Ew G F n ρ false o (.aG aH)):Iw G F n ρ (.Tuple ts j tp) (.Call (.Attribute o (Str.ofString "items") apos) [] [] pos) (dv aH):=
 ⟨ef.sL lE rfl h.ev Bh (gL c) hl⟩
def Tw.isTup(W:Wd G)(h:Ew G F n ρ true e d)(hd:d.isTup=some b)(st:noStar e=true)
 (hx:F.env.kindOf (Str.ofString "isinstance")=some .globalImplicit)(hy:F.env.kindOf (Str.ofString "tuple")=some .globalImplicit):Tw G F n ρ (.Call (.Name (Str.ofString "isinstance") p) [e,.Name (Str.ofString "tuple") q] [] pos) b:=
 ⟨cv.val (Ev.isTup (x:=Str.ofString "isinstance") h.ev hd W.isinstance W.tuple hx hy (iL st) rfl) zY⟩
end
noncomputable def tc:List Str:=[S "target",S "source",S "new_callers",S "func",S "caller"]
noncomputable def BP(kv:Int×Cv):D:=.tup [.int kv.1,lT kv.2]
def vB{G:Gd}(W:Wd G)(hC:qe G bN.name bN.params bN.body bN.scope (.ref G.cC)){n:Nat}{b:Bool}(ht:Cs.kind b t)(hs:Cs.kind b s)(hz:t.length+s.length<=1000):Fn G (Str.ofString "add_callers") (n+1) [j8 t,j8 s] (j8 (iA t s)):=by
 refine Fn.Ah (name:=bN.name) hC tc (λL l aD=>?_) (λu v pm cd doc=>rfl) (by decide) (by show 2<=5;exact Tc rfl) (by decide);have C:Cf G n fA bN.scope tc:=⟨by z_go,ft W⟩;refine Go.ex (Go.fw C (by z_go) Fw.vX (by z_go) λlr=>?_);refine Go.F7 C t BP (λi ρ=>∃s1 s2,ρ=[.val (j8 t),.val (j8 s),.own lr (j8 (hO (t.take i))),s1,s2]) (by z_go) (by z_go) ?_ (λ_ _=>rfl) (pA _ _ rfl) ?_ ?_
 .have e:t.map BP=dv (t.map cE):=by unfold dv;rw[VA];rfl
  rw[e];refine Iw.items (by z_go) (by z_go) (Ew.at C (by z_go) (dj (q:=True) (by z_go) ?_) (fO (b:=(j8 t)) (by z_go) ?_))
  .trivial
  rfl
 .intro i kv az hi bx;obtain⟨s1,s2,rfl⟩:=bx;have hlen:(hO (t.take i)).length<=1000:=by have:=tJ (t.take i);simp only[UC]at this;exact(A4 [.e sd pj,.e Vc (.i Vd Va)] (.e Vc pj)) hz this
  refine Go.yR (l:=lr) (aH:=(hO (t.take i)).map cE) (d:=lT kv.2) (j:=kv.1) rfl (by z_go) (Ew.at C (by z_go) (dj (q:=True) (by z_go) ?_) (fO (b:=(lT kv.2)) (by z_go) ?_)) (Ew.at C (by z_go) (dj (q:=True) (by z_go) ?_) (fO (b:=(.int kv.1)) (by z_go) ?_)) (by simp[sizeLine];exact Vz ‹_› (by exact Tc rfl)) (by z_go) (Go.nil ?_)
  .trivial
  .rfl
  .trivial
  .rfl
  refine⟨.val (.int kv.1),.val (lT kv.2),?_⟩;rw[show Mine.put ((hO (t.take i)).map cE) kv.1 (lT kv.2)=_ from js lT _ kv.1 kv.2,yi t i kv hi];rfl
 intro az bx;obtain⟨s1,s2,rfl⟩:=bx;rw[UA];refine Go.F7 C s BP (λi ρ=>∃s1 s2,ρ=[.val (j8 t),.val (j8 s),.own lr (j8 (iA t (s.take i))),s1,s2]) (by z_go) (by z_go) ?_ (λ_ _=>rfl) (pA _ _ rfl) ?_ ?_
 .have e:s.map BP=dv (s.map cE):=by unfold dv;rw[VA];rfl
  rw[e];refine Iw.items (by z_go) (by z_go) (Ew.at C (by z_go) (dj (q:=True) (by z_go) ?_) (fO (b:=(j8 s)) (by z_go) ?_))
  .trivial
  rfl
 .intro i kv az hi bx;obtain⟨s1,s2,rfl⟩:=bx;have hlen:(iA t (s.take i)).length<=1000:=by have:=DP t (s.take i);simp only[UC]at this;exact(A4 [.e sd pj,.e Vc (.a Va (.i Vd Vb))] (.e Vc pj)) hz this
  have hk:Cs.kind b (iA t (s.take i)):=BK ht λx hx=>hs x (TC hx);have yv:kv.2.pair=b:=hs kv (To hi);have e9:=BJ t s i kv hi;generalize iA t (s.take i)=acc at hlen hk e9⊢;refine Go.ite (c:=(look acc kv.1).isSome) (Tw.D4 C (by z_go) (dj (q:=(True/\True/\aV .In (.int kv.1) (j8 acc))) (by z_go) ?_) (Gw (b:=(ag .In (.int kv.1) (j8 acc))) (by z_go) ?_)) (λh=>?_) λh=>?_
  .trivial
  .refine(?_:(look (acc.map cE) kv.1).isSome=_);simp only[fi];simp
  .refine aO (SM.mp h) λw hw=>?_;have HF:w.pair=b:=by refine bq (gg hw) λx hx h2 _=>?_;rw[<-h2];exact hk x hx
   refine Go.ite (c:=kv.2.pair) (Tw.isTup (d:=lT kv.2) W (Ew.at C (by z_go) (dj (q:=True) (by z_go) ?_) (fO (b:=(lT kv.2)) (by z_go) ?_)) ?_ (by z_go) (by z_go) (by z_go)) (λh2=>?_) λh2=>?_
   .trivial
   .rfl
   .cases kv.2<;>rfl
   .obtain⟨a1,b1,e1⟩:∃a1 b1,kv.2=.p a1 b1:=by induction e:kv.2 using Cv.casesOn with|n i=>rw[e]at h2;exact fR h2|p a b=>exact pA a b rfl
    obtain⟨a2,b2,e2⟩:∃a2 b2,w=.p a2 b2:=by
     cases e:w with
     |n i=>rw[e]at HF;simp only[h2]at yv;rw[<-yv]at HF;exact fR HF
     |p a b=>exact pA a b rfl
    refine Go.yR (l:=lr) (aH:=acc.map cE) (d:=lT (kv.2.add w)) (j:=kv.1) rfl (by z_go) ?_ (Ew.at C (by z_go) (dj (q:=True) (by z_go) ?_) (fO (b:=(.int kv.1)) (by z_go) ?_)) (by simp[sizeLine];exact Vz ‹_› (by decide)) (by z_go) (Go.nil (du.nil (Go.nil (du.nil (Go.nil ?_)))))
    .have hd:lT (kv.2.add w)=.tup ((sums [a1,b1] [a2,b2]).map .int):=by rw[e1,e2];rfl
     rw[hd];refine⟨Ev.Gv (xs:=[a1,b1]) (ys:=[a2,b2]) W rfl (by z_go) (by z_go) (by z_go) ?_ (by z_go) (by z_go) (by decide) (by z_go) (by z_go) (by z_go) (by decide) (by z_go) (by exact Tc rfl) (by rfl) (by rfl)⟩;refine(Lw.cons (d:=.tup ([a1,b1].map .int)) rfl (Ew.at C (by z_go) (dj (q:=True) (by z_go) ?_) (fO (b:=(lT kv.2)) (by z_go) ?_)) (Lw.cons (d:=.tup ([a2,b2].map .int)) rfl ⟨Ev.GZ (l:=lr) (aH:=acc.map cE) (i:=kv.1) 2 rfl rfl (Ew.ev (Ew.at C (by z_go) (dj (q:=True) (by z_go) ?_) (fO (b:=(.int kv.1)) (by z_go) ?_))) ?_⟩ Lw.nil)).ev
     .trivial
     .rw[e1];rfl
     .trivial
     .rfl
     rw[fi lT,hw,e2];rfl
    .trivial
    .rfl
    refine⟨.val (.int kv.1),.val (lT kv.2),?_⟩;rw[show Mine.put (acc.map cE) kv.1 (lT (kv.2.add w))=_ from js lT acc kv.1 (kv.2.add w),e9];unfold fQ;rw[hw];rfl
   obtain⟨i1,e1⟩:∃i,kv.2=.n i:=by induction e:kv.2 using Cv.casesOn with|n i=>exact⟨i,rfl⟩|p a b=>rw[e]at h2;exact Ht h2
   obtain⟨i2,e2⟩:∃i,w=.n i:=by
    cases e:w with
    |n i=>exact⟨i,rfl⟩
    |p a b=>rw[e]at HF;simp only[h2]at yv;rw[<-yv]at HF;exact Ht HF
   refine Go.Gg (l:=lr) (aH:=acc.map cE) (bL:=.int i2) (cN:=.int i1) (d:=lT (kv.2.add w)) (j:=kv.1) rfl (by z_go) (Ew.at C (by z_go) (dj (q:=True) (by z_go) ?_) (fO (b:=(.int kv.1)) (by z_go) ?_)) (by rw[fi lT,hw,e2];rfl) (Ew.at C (by z_go) (dj (q:=True) (by z_go) ?_) (fO (b:=(lT kv.2)) (by z_go) ?_)) (by rw[e1,e2];exact ro) (by simp[sizeLine];exact Vz ‹_› (by decide)) (by intros;rfl) (Go.nil (du.nil (Go.nil (du.nil (Go.nil ?_)))))
   .trivial
   .rfl
   .trivial
   .rw[e1];rfl
   refine⟨.val (.int kv.1),.val (lT kv.2),?_⟩;rw[show Mine.put (acc.map cE) kv.1 (lT (kv.2.add w))=_ from js lT acc kv.1 (kv.2.add w),e9];unfold fQ;rw[hw];rfl
  have hw:look acc kv.1=none:=by simpa using h
  refine Go.yR (l:=lr) (aH:=acc.map cE) (d:=lT kv.2) (j:=kv.1) rfl (by z_go) (Ew.at C (by z_go) (dj (q:=True) (by z_go) ?_) (fO (b:=(lT kv.2)) (by z_go) ?_)) (Ew.at C (by z_go) (dj (q:=True) (by z_go) ?_) (fO (b:=(.int kv.1)) (by z_go) ?_)) (by simp[sizeLine];exact Vz ‹_› (by decide)) (by z_go) (Go.nil (du.nil (Go.nil ?_)))
  .trivial
  .rfl
  .trivial
  .rfl
  refine⟨.val (.int kv.1),.val (lT kv.2),?_⟩;rw[show Mine.put (acc.map cE) kv.1 (lT kv.2)=_ from js lT acc kv.1 kv.2,e9];unfold fQ;rw[hw];rfl
 intro az bx;obtain⟨s1,s2,rfl⟩:=bx;rw[UA];exact Go.ret (d:=j8 (iA t s)) ⟨Ev.Hy rfl⟩ rfl
noncomputable def dg(f:Str)(g:List D->D)(ok:List D->Prop):jX:=eP (λx=>x==f) (λ_ ds=>g ds) (λ_ ds=>ok ds)
def er(W:Wd G)(h:∀ds,ok ds->gV G n f ds (g ds)):i8 G n (dg f g ok):=
 fh W λx ds hx hd=>by
  have:x=f:=by simpa using hx
  (replace this:=V7 this;subst this)
  exact h ds hd
structure En where
 cc:Int
 nc:Int
 tt:Int
 ct:Int
 cl:Cs
 deriving DecidableEq
noncomputable def gC(e:En):D:=.tup [.int e.cc,.int e.nc,.int e.tt,.int e.ct,j8 e.cl]
noncomputable def ji(t s:En):En:=⟨s.cc+t.cc,s.nc+t.nc,s.tt+t.tt,s.ct+t.ct,iA t.cl s.cl⟩
noncomputable def zU:List Str:=[S "target",S "source",S "cc",S "nc",S "tt",S "ct",S "callers",S "t_cc",S "t_nc",S "t_tt",S "t_ct",S "t_callers"]
noncomputable abbrev iq(G:Gd):Prop:=qe G bN.name bN.params bN.body bN.scope (.ref G.cC)
def Br(W:Wd G)(hC:iq G)(ht:Cs.kind b t.cl)(hs:Cs.kind b s.cl)(hz:t.cl.length+s.cl.length<=1000):Fn G (Str.ofString "add_func_stats") (n+2) [gC t,gC s] (gC (ji t s)):=by
 refine Fn.intro (name:=uX.name) (W.at_ uX) zU (λL l cd aD=>?_) (λu v pm cd doc=>rfl) (by decide) (by show 2<=12;exact Tc rfl) (by decide);have C:Cf G (n+1) (dg (S "add_callers") (λ_=>j8 (iA t.cl s.cl)) (λds=>ds=[j8 t.cl,j8 s.cl])) uX.scope zU:=⟨by z_go,er W λds h=>h▸ .fn (vB W hC ht hs hz)⟩;refine Go.ex (Go.jM C (ds:=[.int s.cc,.int s.nc,.int s.tt,.int s.ct,j8 s.cl]) (by z_go) rfl (Ew.dq C (True) (gC s) ?_ ?_) (by z_go) (by z_go) ?_)
 .trivial
 .rfl
 refine Go.jM C (ds:=[.int t.cc,.int t.nc,.int t.tt,.int t.ct,j8 t.cl]) (by z_go) rfl (Ew.dq C (True) (gC t) ?_ ?_) (by z_go) (by z_go) ?_
 .trivial
 .rfl
 refine Go.ret (d:=gC (ji t s)) (Ew.dq C (((True/\True/\bf .Add (.int s.cc) (.int t.cc))/\((True/\True/\bf .Add (.int s.nc) (.int t.nc))/\((True/\True/\bf .Add (.int s.tt) (.int t.tt))/\((True/\True/\bf .Add (.int s.ct) (.int t.ct))/\(((True/\(True/\True))/\(dg (S "add_callers") (λ_=>j8 (iA t.cl s.cl)) (λds=>ds=[j8 t.cl,j8 s.cl])).bJ (S "add_callers") [(j8 t.cl),(j8 s.cl)])/\True)))))/\5<=sizeLine) (D.tup [(ae .Add (.int s.cc) (.int t.cc)),(ae .Add (.int s.nc) (.int t.nc)),(ae .Add (.int s.tt) (.int t.tt)),(ae .Add (.int s.ct) (.int t.ct)),((dg (S "add_callers") (λ_=>j8 (iA t.cl s.cl)) (λds=>ds=[j8 t.cl,j8 s.cl])).call (S "add_callers") [(j8 t.cl),(j8 s.cl)])]) ?_ ?_) rfl
 .exact⟨⟨⟨Wa,Wa,Wa⟩,⟨Wa,Wa,Wa⟩,⟨Wa,Wa,Wa⟩,⟨Wa,Wa,Wa⟩,⟨⟨Wa,Wa,Wa⟩,rfl⟩,Wa⟩,by exact Tc rfl⟩
 rfl
section
variable{G:Gd}{n:Nat}{L:jX}
def BC{f:Nat}(iv:yQ G n L f){F:Fx}{ρ:RE}{S:Sx}{g:Gt}(R:Rel F ρ S g){kx vx t bM:Expr}{sc:Scope}{pos:Pos}{α:Type}{xs:List α}{enc:α->D}{ky:α->Int}{vl:α->D}
 (s1:gk bM=true)(hi:ef G F n ρ false t bM (xs.map enc))(s3:mE S sc=true)(s4:yE (S.inner sc) t=true)(sk:a8 f false ((S.inner sc).bind t) kx=true)(sv:a8 f false ((S.inner sc).bind t) vx=true)(hz:xs.length<=sizeLine)
 (ho:∀x∈xs,gS t (enc x)/\((so L f).val ((S.inner sc).bind t) (bindG t (enc x) g) kx/\(sm L f).val ((S.inner sc).bind t) (bindG t (enc x) g) kx=.int (ky x))/\((so L f).val ((S.inner sc).bind t) (bindG t (enc x) g) vx/\(sm L f).val ((S.inner sc).bind t) (bindG t (enc x) g) vx=vl x)):
 bw G F n ρ (.DictComp kx vx [⟨t,bM,[],0⟩] sc pos) newDict t bM [] sc (.aG (xs.foldl (λacc x=>put acc (ky x) (vl x)) [])):=by
 have L4:=s3;unfold mE at s3;simp only[Uw,VX,Ue,Un,Tx,SN]at s3;(refine cu s3 λaB c5=>?_;obtain⟨⟨⟨c1,c2⟩,c3⟩,c4⟩:=aB);refine aO (qP (env:=F.env) sc.names [] λx hx=>by have:=UE.mp c4 _ hx;simp only[Uu,Bool.false_or,U0,VX]at this;exact R.Fy x this) λcl jc=>?_;refine bw.dict (cl:=cl) (sc.names.map (·.1)) hi (oE R jc c2 sc.names λ_ h=>h) (λC l=>xA rfl rfl) (λC l=>?_) (λx=>jL s1) jc c2 c1 (λx hx hl=>?_)
 .generalize hF:bz F sc cl (sc.names.map (·.1)) C=F';revert F';refine nz ?_;intro F';intro;have hv:F'.vars=accN::sc.names.map (·.1):=by rw[<-hF];rfl
  have R0:∀a,Rel F' (.own l a::yX S g sc) (S.inner sc) g:=λa=>hF▸qE R L4 jc C l a;refine⟨λi az=>∃gi,(∀a,Rel F' (.own l a::gi) (S.inner sc) g)/\az=.own l (.aG ((xs.take i).foldl (λacc x=>put acc (ky x) (vl x)) []))::gi,⟨_,R0,rfl⟩,λi d az hd m8=>ao m8 λmy hk ur=>?_,λaz w5=>ao w5 λgi _ e=>⟨gi,by rw[e,US,UA]⟩⟩;subst ur;rw[Uc]at hd;obtain⟨x,HD,rfl⟩:=SS.mp hd;(refine kS (ho x (To HD)) λo1 aB o3 e3=>?_;obtain⟨o2,e2⟩:=aB);have e9:((xs.take (i+1)).foldl (λacc x=>put acc (ky x) (vl x)) [])=put ((xs.take i).foldl (λacc x=>put acc (ky x) (vl x)) []) (ky x) (vl x):=by simp only[Ug,HD,Ui];rfl
  have hlen:((xs.take i).foldl (λacc x=>put acc (ky x) (vl x)) []).length<=xs.length:=by
   have:∀(xs:List α) (acc:List (Int×D)),(xs.foldl (λacc x=>put acc (ky x) (vl x)) acc).length<=acc.length+xs.length:=λxs=>by
    induction xs with
    |nil=>simp
    |cons x xs ih=>
     intro acc;have h1:=ih (put acc (ky x) (vl x));have h2:(put acc (ky x) (vl x)).length<=acc.length+1:=by unfold put;split<;>simp
     simp only[UY,Ux];exact(A4 [.e Va nF,.e Vb uo] (.e Va (.a Vd q8))) h1 h2
   have:=this (xs.take i) [];simp only[UC,U7]at this;exact(A3 [.e Va (.a K0 (.i Vb Vc))] (.e Va Vc)) this
  generalize((xs.take i).foldl (λacc x=>put acc (ky x) (vl x)) [])=acc at hlen e9⊢;revert acc;refine nz ?_;intro acc;intro;intro;refine bq (wW (G:=G) (n:=n) (hk (.aG acc)) s4 o1) λaz a R' e8=>?_;have h0:=e8 0 (by rw[hv];rfl);obtain⟨iW,rfl⟩:∃iW,az=.own l (.aG acc)::iW:=by
   induction az using List.casesOn with
   |nil=>trivial
   |cons x xs=>simp at h0;exact⟨xs,by rw[h0]⟩
  refine f6 _ true a lX.nil (λ_=>?_) (λq=>by exact Ht q);have ek:=iv _ _ kx F' _ sk o2 R' true;have ev:=iv _ _ vx F' _ sv o3 R' false;rw[e2]at ek;rw[e3]at ev;exact(Em.KH (x:=accN) (i:=0) (by rw[hv];rfl) rfl ek ev (by exact Vz ‹_› ‹_›)).mono λkG ur=>⟨iW,λa=>(R'.unbind s4).head,by rw[e9];exact ur⟩
 have:=UE.mp c3 x hx;rw[hl]at this;simpa using this
variable{Lb:jX}{name:Str}{scope:Scope}{vars:List Str}{La a:Addr}{cd:Value}{aD:XS}{ρ:RE}
noncomputable def EU(scope:Scope)(vars:List Str)(ρ:RE)(kx vx t bM:Expr)(sc:Scope):Bool:=
 mD (a8 fu) (Sx.of scope vars ρ) bM&&gk bM&&mE (Sx.of scope vars ρ) sc&&yE ((Sx.of scope vars ρ).inner sc) t&&a8 fu false (((Sx.of scope vars ρ).inner sc).bind t) kx&&a8 fu false (((Sx.of scope vars ρ).inner sc).bind t) vx&&ρ.length==vars.length
def Ew.KJ(C:Cf G n Lb scope vars){kx vx t bM:Expr}{sc:Scope}{α:Type}(xs:List α)(enc:α->D)(ky:α->Int)(vl:α->D)(c:EU scope vars ρ kx vx t bM sc=true)(o:KI Lb scope vars ρ t bM)(v:I Lb scope vars ρ bM=xs.map enc)(hz:xs.length<=sizeLine)
 (ho:∀x∈xs,gS t (enc x)/\((so Lb fu).val (((Sx.of scope vars ρ).inner sc).bind t) (bindG t (enc x) (uv vars ρ)) kx/\(sm Lb fu).val (((Sx.of scope vars ρ).inner sc).bind t) (bindG t (enc x) (uv vars ρ)) kx=.int (ky x))/\((so Lb fu).val (((Sx.of scope vars ρ).inner sc).bind t) (bindG t (enc x) (uv vars ρ)) vx/\(sm Lb fu).val (((Sx.of scope vars ρ).inner sc).bind t) (bindG t (enc x) (uv vars ρ)) vx=vl x)):
 Ew G (fx name scope vars La a cd aD) n ρ k (.DictComp kx vx [⟨t,bM,[],0⟩] sc pos) (.aG (xs.foldl (λacc x=>put acc (ky x) (vl x)) [])):=by
 unfold EU at c;simp only[Uw,VX]at c;(refine cu c λaB c7=>?_;obtain⟨⟨⟨⟨⟨c1,c2⟩,c3⟩,c4⟩,c5⟩,c6⟩:=aB);have R:=n4 (name:=name) (L:=La) (a:=a) (cd:=cd) (aD:=aD) C.fr c7;have it:=rq (t:=t) C.BO.w (sound C.BO fu).1 R c1 o;have v':kJ (sm Lb fu) (Sx.of scope vars ρ) (uv vars ρ) bM=xs.map enc:=v;rw[v']at it;exact⟨(BC (sound C.BO fu).1 R c2 it c3 c4 c5 c6 hz ho).NM.ev⟩
end
noncomputable abbrev Bk:=List (Int×En)
noncomputable abbrev bE(kv:Int×En):Int×D:=(kv.1,gC kv.2)
noncomputable def d0(b:Bk):D:=.aG (b.map bE)
noncomputable def Rt:En:=⟨0,0,0,0,[]⟩
noncomputable def Bk.kind(b:Bool)(bk:Bk):Prop:=∀kv∈bk,Cs.kind b kv.2.cl
noncomputable def f7(bk:Bk)(name:Int):En:=(look bk name).getD Rt
noncomputable def bo(bk:Bk)(name:Int)(e:En):Bk:=(bk++[(name,ji (f7 bk name) e)]).foldl (λacc kv=>d8 acc kv.1 kv.2) []
noncomputable def zW:List Str:=[S "book",S "name",S "entry"]
noncomputable def JI(kv:Int×En):D:=.tup [.int kv.1,gC kv.2]
def yd{α:Type}(f:α->D)(xs acc:List (Int×α)):xs.foldl (λacc x=>put acc x.1 (f x.2)) (acc.map λkv=>(kv.1,f kv.2))=(xs.foldl (λacc kv=>d8 acc kv.1 kv.2) acc).map λkv=>(kv.1,f kv.2):=by
 induction xs generalizing acc with
 |nil=>rfl
 |cons x xs ih=>simp only[UY];rw[js f,ih]
def oJ(W:Wd G)(hC:iq G)(hb:bk.kind b)(he:Cs.kind b e.cl)(hz:bk.length<=1000)(P9:(f7 bk nm).cl.length+e.cl.length<=1000):
 Fn G (Str.ofString "_law_noted") (n+3) [d0 bk,.int nm,gC e] (d0 (bo bk nm e)):=by
 have hk:Cs.kind b (f7 bk nm).cl:=by
  unfold f7;induction h:look bk nm using Option.casesOn with
  |none=>intro kv h;exact pL h
  |some w=>refine bq (gg h) λx hx h2 _=>?_;rw[Option.getD_some,<-h2];exact hb x hx
 refine Fn.intro (name:=uZ.name) (W.at_ uZ) zW (λL l cd aD=>?_) (λu v w pm cd doc=>rfl) (by decide) (by show 3<=3;exact Tc rfl) (by decide);have C:Cf G (n+2) (dg (S "add_func_stats") (λ_=>gC (ji (f7 bk nm) e)) (λds=>ds=[gC (f7 bk nm),gC e])) uZ.scope zW:=⟨by z_go,er W λds h=>h▸ .fn (Br W hC hk he P9)⟩;have hg:((look (bk.map bE) nm).getD (.tup [.int 0,.int 0,.int 0,.int 0,.aG []]))=gC (f7 bk nm):=by
  rw[fi gC];unfold f7
  cases look bk nm<;>rfl
 have hf:=yd gC (bk++[(nm,ji (f7 bk nm) e)]) [];refine Go.ex (Go.ret (d:=d0 (bo bk nm e)) ?_ rfl);refine(?_:Ew _ _ _ _ _ _ (.aG ((bo bk nm e).map λkv=>(kv.1,gC kv.2))));rw[show(bo bk nm e).map (λkv=>(kv.1,gC kv.2))=_ from hf.symm];refine Ew.KJ C (bk++[(nm,ji (f7 bk nm) e)]) JI (λkv=>kv.1) (λkv=>gC kv.2) (by z_go) (dj (q:=(let bD:=dg (S "add_func_stats") (λ_=>gC (ji (f7 bk nm) e)) (λds=>ds=[gC (f7 bk nm),gC e]);let ee:=bD.cZ (S "get") (d0 bk) [(.int nm),(D.tup [(D.int 0),(D.int 0),(D.int 0),(D.int 0),(D.aG [])])];let iY:=D.list [(D.tup [(.int nm),(bD.call (S "add_func_stats") [ee,(gC e)])])];let pf:=itemsOf (d0 bk);((True/\k8 (d0 bk))/\((((True/\((((True/\(True/\(((True/\(True/\(True/\(True/\((True/\Nodup ([]:List Int))/\True)))))/\5<=sizeLine)/\True))/\bD.eS (S "get") (d0 bk) [(.int nm),(D.tup [(D.int 0),(D.int 0),(D.int 0),(D.int 0),(D.aG [])])])/\(True/\True))/\bD.bJ (S "add_func_stats") [ee,(gC e)])/\True))/\2<=sizeLine)/\True)/\1<=sizeLine)/\bf .Add pf iY)/\bB (ae .Add pf iY))) (by z_go) ?_) (iG (b:=(let bD:=dg (S "add_func_stats") (λ_=>gC (ji (f7 bk nm) e)) (λds=>ds=[gC (f7 bk nm),gC e]);aN (ae .Add (itemsOf (d0 bk)) (D.list [(D.tup [(.int nm),(bD.call (S "add_func_stats") [(bD.cZ (S "get") (d0 bk) [(.int nm),(D.tup [(D.int 0),(D.int 0),(D.int 0),(D.int 0),(D.aG [])])]),(gC e)])])])))) (by z_go) ?_) (by simp[sizeLine];exact Vz ‹_› (by exact Tc rfl)) λx hx=>⟨rfl,⟨Wa,rfl⟩,Wa,rfl⟩
 .repeat' (first|with_reducible exact True.intro|with_reducible refine And.intro ?_ ?_|(decide))
  .refine(?_:(bk.map bE).length<=sizeLine);simp[sizeLine];exact Vz ‹_› (by exact Tc rfl)
  .exact trivial
  .refine(?_:[(look (bk.map bE) nm).getD (.tup [.int 0,.int 0,.int 0,.int 0,.aG []]),gC e]=_);rw[hg]
  .refine(?_:(dv (bk.map bE)).length+1<=sizeLine);simp[dv,sizeLine];exact Vz ‹_› (by exact Tc rfl)
  exact trivial
 have e1:dv (bk.map bE)=bk.map JI:=by unfold dv;rw[VA];rfl
 refine(?_:dv (bk.map bE)++[_]=_);rw[e1,UT];rfl
structure Lg where
 k:Int
 st:List Int
 a:Int
 b:Int
 deriving DecidableEq
noncomputable def jb(o:Lg):D:=.tup [.int o.k,aa o.st,.int o.a,.int o.b]
noncomputable def bG(l:List Lg):D:=.list (l.map jb)
noncomputable def Lg.ok(o:Lg):Prop:=2<=o.st.length/\o.st.length<=100
noncomputable def iX(o:Lg):Int:=o.st.getD (o.st.length - 1) 0
noncomputable def gX(o:Lg):Int:=o.st.getD (o.st.length - 2) 0
noncomputable abbrev Told:=List (Int×Int)
noncomputable def cm(t:Told):D:=.list (t.map λp=>.tup [.int p.1,.int p.2])
noncomputable def ah(nm:Int)(log:List Lg):List Lg:=log.filter λo=>decide (iX o=nm)
noncomputable def aI(nm:Int)(cs:List Lg):List Lg:=cs.filter λo=>decide (o.st.count nm=1)
noncomputable def bF(ab:List Int)(fs:List Lg)(x:Int):Int×Int:=(ab.count x,(fs.filter λo=>decide (gX o=x)).length)
noncomputable def mM(paired:Bool)(b:Int×Int):Cv:=if paired=true then .p b.1 b.2 else .n (b.1+b.2)
noncomputable def aJ(paired:Bool)(ab:List Int)(fs:List Lg):Cs:=((List.range ab.length).filter λk=>decide (ab.getD k 0∉ab.take k)).map λk=>(ab.getD k 0,mM paired (bF ab fs (ab.getD k 0)))
structure Du where
 nm:Int
 cc:Int
 nc:Int
 tt:Int
 ct:Int
 cl:Cs
 deriving DecidableEq
noncomputable def yM(c:Cs):D:=.list (c.map BP)
noncomputable def B1(d:Du):D:=.tup [.int d.nm,.tup [.int d.cc,.int d.nc,.int d.tt,.int d.ct],yM d.cl]
noncomputable def Ho(paired:Bool)(log:List Lg)(told:Told)(nm:Int):Du:=
 ⟨nm,(aI nm (ah nm log)).length,(ah nm log).length,(told.map (·.2)).count nm,((aI nm (ah nm log)).map λo=>o.b - o.a).sum,aJ paired ((ah nm log).map gX) (aI nm (ah nm log))⟩
noncomputable def qa(paired:Bool)(log:List Lg)(told:Told)(nm:Int):List Du:=if ah nm log=[]then[]else[Ho paired log told nm]
noncomputable def gr(paired:Bool)(names:List Int)(log:List Lg)(told:Told):List Du:=names.flatMap (qa paired log told)
noncomputable def gq(l:List Du):D:=.list (l.map B1)
def DW(o:Lg):idx (jb o) (.int 1)=aa o.st:=rfl
def HA(o:Lg)(h0:0<=i)(h1:i<4):ax (jb o) (.int i):=⟨by show -(4:Int)<=i;exact(I1 [.E K0 Qa] (.E (.g K4) Qa)) h0,by show i<(4:Int);exact TF h1,by show 4<2^40;decide⟩
def rP(xs:List Int)(h:j<=xs.length)(h0:1<=j)(hz:xs.length<=100):ax (aa xs) (.int (-(j:Int)))/\idx (aa xs) (.int (-(j:Int)))=.int (xs.getD (xs.length - j) 0):=by
 refine⟨⟨by rw[US];exact(A2 [.e Va Vb] (.E (.g ew) pP)) h,by rw[US];exact(A2 [.e K1 Va] (.L pP ew)) h0,by rw[US];exact TV ‹_› (by decide)⟩,?_⟩;refine(?_:ke (xs.map D.int) (-(j:Int)) .none=_);unfold ke;rw[if_neg (by exact(A1 [.e K1 Va] (.n (.E K0 pP))) h0),US];have e:(-(j:Int)+(xs.length:Int)).toNat=xs.length - j:=by exact(A3 [.i (.E K0 (.a pP ew)) (.Q (.o Vc) (.a pP ew)),.i (.E (.a pP ew) K0) (.q Vc K0)] (.q Vc ux)) TJ TQ
 (refine Eq.substr e ?_;refine V3 Su ?_;refine Eq.substr Uc ?_;refine Eq.substr Su ?_;refine Eq.substr (SK (Nat.sub_lt_self h0 h)) ?_);rfl
def FL(h:o.ok):ax (aa o.st) (a9 (.int 1))/\idx (aa o.st) (a9 (.int 1))=.int (iX o):=rP o.st (j:=1) (by have:=h.1;exact VE ‹_›) (VP _) h.2
def yU(h:o.ok):ax (aa o.st) (a9 (.int 2))/\idx (aa o.st) (a9 (.int 2))=.int (gX o):=rP o.st (j:=2) h.1 (VC _) h.2
def bX{α:Type}{enc:α->D}{P:D->Bool}{p:α->Bool}{xs:List α}(h:∀x∈xs,P (enc x)=p x):(xs.map enc).filter P=(xs.filter p).map enc:=by rw[filter_map];congr 1;exact filter_congr λx hx=>h x hx
def b7{α β:Type}{enc:α->D}{f:D->β}{g:α->β}{xs:List α}(h:∀x∈xs,f (enc x)=g x):(xs.map enc).map f=xs.map g:=by rw[VA];exact TK λx hx=>h x hx
def aq{α:Type}{enc:α->D}{P:D->Prop}{xs:List α}(h:∀x∈xs,P (enc x)):∀u∈xs.map enc,P u:=λu hu=>by obtain⟨x,hx,rfl⟩:=VB.mp hu;exact h x hx
def fj(xs:List Int)(x:Int):fA.cZ (S "count") (aa xs) [.int x]=.int (xs.count x:Nat):=by refine(?_:D.int (((xs.map .int).map je).count x:Nat)=_);rw[rF]
def lF(xs:List Int)(x:Int):fA.eS (S "count") (aa xs) [.int x]:=lI xs id
noncomputable def v3(b:Int×Int):D:=.tup [.int b.1,.int b.2]
noncomputable def hV(bs:List (Int×Int)):D:=.list (bs.map v3)
def A9:∀(l:List Lg),(bG l).flat=true:=λl=>by
 have hi:∀xs:List Int,dA (xs.map .int)=true:=λxs=>by
  induction xs with
  |nil=>rfl
  |cons x xs ih=>exact ih
 refine(?_:dA (l.map jb)=true);induction l with
 |nil=>rfl
 |cons o l ih=>
  have h:(jb o).flat=true:=by refine(?_:(true&&(dA (o.st.map .int)&&_))=true);rw[hi];rfl
  refine(?_:((jb o).flat&&_)=true);rw[h];exact ih
def bC:∀xs:List Int,dA (xs.map .int)=true:=by
 intro l';induction l' with
 |nil=>exact rfl
 |cons y' xs aU=>exact aU
def eF:∀xs:List Int,b5 (xs.map .int)=0:=by
 intro l';induction l' with
 |nil=>exact rfl
 |cons y' xs aU=>exact by refine(?_:max 0 (b5 (xs.map .int))=0);rw[aU];rfl
def Ba(l:List Lg):(bG l).deep<=20:=by
 refine(?_:b5 (l.map jb)+1<=20);have:b5 (l.map jb)<=2:=by
  induction l with
  |nil=>exact VO _
  |cons o l ih=>
   refine(?_:max (jb o).deep (b5 (l.map jb))<=2);have h:(jb o).deep=2:=by refine(?_:max 0 (max (b5 (o.st.map .int)+1) (max 0 (max 0 0)))+1=2);rw[eF];rfl
   rw[h];exact Nat.max_le.mpr ⟨VP _,ih⟩
 exact TV ‹_› (by decide)
def wi(ab:List Int):kC (S "range") [bh (aa ab)]=(List.range ab.length).map λ(k:Nat)=>D.int k:=by refine(?_:(cH 0 ((ab.map D.int).length:Nat) 1).map D.int=_);rw[US,iP,VA];rfl
def AQ(ab:List Int)(h:ab.length<=2000):i6 false (S "range") [bh (aa ab)]:=by refine(?_:Builtin.Range.small 0 ((ab.map D.int).length:Nat) 1=true);rw[US];exact small_one (TY _) (TY _) (TY _) ((A1 [.e Va (.c 2000)] (.L bA Ck)) h)
def sG(ab:List Int)(hk:k<ab.length)(hz:ab.length<=2000):ax (aa ab) (.int k)/\idx (aa ab) (.int k)=.int (ab.getD k 0):=by have:=gv (xs:=ab) (enc:=D.int) (i:=(k:Int)) rfl (SK hk) (TV ‹_› (by decide));rw[Su,SK hk];exact this
def tG{α:Type}(xs:List α)(k:Nat):cut xs none (some (k:Int))=xs.take k:=by
 unfold cut;simp only[Option.elim,jx,Vp,Nat.sub_zero];by_cases h:k<=xs.length
 .rw[U3 h]
 (refine Eq.substr (UM (UN h)) ?_;refine V3 (SU (VP _)) ?_;exact(V7 (SU (UN h))))
def Eb(ab:List Int)(k:Nat):j6 (aa ab) none (some (.int k))=aa (ab.take k):=by refine(?_:D.list (cut (ab.map D.int) none (some (k:Int)))=_);rw[tG,<-map_take];rfl
def gB(x:Int)(ys:List Int):ag .NotIn (.int x) (aa ys)=decide (x∉ys):=by
 refine(?_:(!(ys.map D.int).any λy=>qX y (.int x))=_);rw[any_map];have:∀ys:List Int,(ys.any ((λy=>qX y (D.int x))∘D.int))=decide (x∈ys):=λys=>by
  induction ys with
  |nil=>rfl
  |cons y ys ih=>
   simp only[any_cons,ih];refine(?_:(decide (y=x)||_)=_);by_cases h:y=x
   .simp[h]
   simp[h,V9 h]
 rw[this];simp
def BI(a b:Int):allI [.int a,.int b]:=λd hd=>by simp at hd;rcases hd with rfl|rfl<;>exact⟨_,rfl⟩
def td(told:Told):D.list (map (λu=>(aF u).tail.headD D.none) (aN (cm told)))=aa (told.map (·.2)):=by refine(?_:D.list (map _ (told.map _))=D.list ((told.map (·.2)).map D.int));rw[VA,VA];rfl
def JF(fs:List Lg):D.list (map (λu=>ae .Sub (idx u (D.int 3)) (idx u (D.int 2))) (aN (bG fs)))=aa (fs.map λo=>o.b - o.a):=by refine(?_:D.list (map _ (fs.map jb))=D.list ((fs.map _).map D.int));rw[VA,VA];rfl
def yf(paired:Bool)(names:List Int)(log:List Lg)(told:Told):(gr paired names log told).length<=names.length:=by
 unfold gr;induction names with
 |nil=>exact VO _
 |cons n ns ih=>
  simp only[Um,TU,Ux];have:(qa paired log told n).length<=1:=by unfold qa;split<;>exact Tc rfl
  exact(A3 [.e Va Vb,.e Vc K1] (.e (.a Vc Va) f9)) ih this
noncomputable def IG:List Str:=[S "names",S "log",S "told",S "paired",S "due",S "name",S "calls",S "first",S "aboves",S "both",S "callers"]
def Hl{G:Gd}(W:Wd G){n:Nat}(paired:Bool)(names:List Int)(log:List Lg)(told:Told)(hl:∀o∈log,o.ok)(hz:log.length<=1000)(ht:told.length<=1000)(hn:names.length<=100):
 Fn G (Str.ofString "_law_due") (n+1) [aa names,bG log,cm told,.bool paired] (gq (gr paired names log told)):=by
 refine Fn.intro (name:=F8.name) (W.at_ F8) IG (λL l cd aD=>?_) (λu v w x pm cd doc=>rfl) (by decide) (by show 4<=11;exact Tc rfl) (by decide);have C:Cf G n fA F8.scope IG:=⟨by z_go,ft W⟩;refine Go.ex (Go.fw C (by z_go) (Fw.list Lw.nil (by simp)) (by z_go) λlr=>?_);refine Go.for C names D.int (λi ρ=>∃s1 s2 s3 s4 s5 s6,ρ=[.val (aa names),.val (bG log),.val (cm told),.val (.bool paired),.own lr (gq (gr paired (names.take i) log told)),s1,s2,s3,s4,s5,s6]) (by z_go) (dj (q:=(True/\bB (aa names))) (by z_go) ?_) (iG (b:=(aN (aa names))) (by z_go) ?_) (λ_ _=>trivial) (ic _ _ _ _ _ _ rfl) ?_ ?_
 .exact⟨Wa,Wa⟩
 .rfl
 .intro i nm az hi bx;refine dm bx λs1 s2 s3 s4 s5 s6 kD=>?_;clear bx;subst kD;refine Go.eV (d:=bG (ah nm log)) C (by z_go) (bw.dq C ((True/\bB (bG log))/\(∀u1∈(aN (bG log)),True/\(((True/\True/\ax u1 (D.int 1))/\(True/\dz (D.int 1))/\ax (idx u1 (D.int 1)) (a9 (D.int 1)))/\True/\aV .Eq (idx (idx u1 (D.int 1)) (a9 (D.int 1))) (.int nm))/\((ag .Eq (idx (idx u1 (D.int 1)) (a9 (D.int 1))) (.int nm))=true->True))/\length (map (λu2=>u2) (filter (λu2=>(ag .Eq (idx (idx u2 (D.int 1)) (a9 (D.int 1))) (.int nm))) (aN (bG log))))<=sizeLine) (D.list (map (λu3=>u3) (filter (λu3=>(ag .Eq (idx (idx u3 (D.int 1)) (a9 (D.int 1))) (.int nm))) (aN (bG log))))) ?_ ?_) (by z_go) ?_
  .refine⟨⟨Wa,Wa⟩,aq (xs:=log) (enc:=jb) λo ho=>?_,?_⟩
   ·(simp only[DW];refine Eq.substr ((FL (hl o ho)).2) ?_);exact⟨Wa,⟨⟨⟨Wa,Wa,HA o (by decide) (by decide)⟩,⟨Wa,Wa⟩,(FL (hl o ho)).1⟩,Wa,Wa⟩,λ_=>trivial⟩
   rw[US];refine Vz (Td _ _) ?_;refine(?_:(log.map jb).length<=sizeLine);simp[sizeLine];exact Vz ‹_› (Tc rfl)
  .refine(?_:D.list (map (λu=>u) (filter _ (log.map jb)))=_);rw[map_id',bX (p:=λo=>decide (iX o=nm)) λo ho=>by simp only[DW,(FL (hl o ho)).2];rfl];rfl
  have D2:∀o∈ah nm log,o.ok:=λo ho=>hl o (UW.mp ho).1;have ME:(ah nm log).length<=1000:=Vz (Td _ _) hz;have uB:qa paired log told nm=if ah nm log=[]then[]else[⟨nm,(aI nm (ah nm log)).length,(ah nm log).length,(told.map (·.2)).count nm,((aI nm (ah nm log)).map λo=>o.b - o.a).sum,aJ paired ((ah nm log).map gX) (aI nm (ah nm log))⟩]:=rfl;generalize ah nm log=cs at D2 ME uB⊢;refine Go.assign (d:=bG (aI nm cs)) C (by z_go) (Ew.dq C ((True/\bB (bG cs))/\(∀u1∈(aN (bG cs)),True/\(((True/\True/\ax u1 (D.int 1))/\(True/\True)/\fA.eS (S "count") (idx u1 (D.int 1)) [(.int nm)])/\True/\aV .Eq (fA.cZ (S "count") (idx u1 (D.int 1)) [(.int nm)]) (D.int 1))/\((ag .Eq (fA.cZ (S "count") (idx u1 (D.int 1)) [(.int nm)]) (D.int 1))=true->True))/\length (map (λu2=>u2) (filter (λu2=>(ag .Eq (fA.cZ (S "count") (idx u2 (D.int 1)) [(.int nm)]) (D.int 1))) (aN (bG cs))))<=sizeLine) (D.list (map (λu3=>u3) (filter (λu3=>(ag .Eq (fA.cZ (S "count") (idx u3 (D.int 1)) [(.int nm)]) (D.int 1))) (aN (bG cs))))) ?_ ?_) (by z_go) ?_
  .refine⟨⟨Wa,Wa⟩,aq (xs:=cs) (enc:=jb) λo ho=>?_,?_⟩
   ·(simp only[DW];rw[fj]);exact⟨Wa,⟨⟨⟨Wa,Wa,HA o (by decide) (by decide)⟩,⟨Wa,Wa⟩,lF _ _⟩,Wa,Wa⟩,λ_=>trivial⟩
   rw[US];refine Vz (Td _ _) ?_;refine(?_:(cs.map jb).length<=sizeLine);simp[sizeLine];exact Vz ‹_› (Tc rfl)
  .refine(?_:D.list (map (λu=>u) (filter _ (cs.map jb)))=_);rw[map_id'];refine(V4 D.list (bX (p:=λo=>decide (o.st.count nm=1)) λo ho=>?_)).trans rfl;simp only[DW,fj];exact UD.mpr ((A1 [] (.b (.Q bA K1) (.q Va K1))))
  have Lv:∀o∈aI nm cs,o.ok:=λo ho=>D2 o (UW.mp ho).1;have QO:(aI nm cs).length<=1000:=Vz (Td _ _) ME;generalize aI nm cs=fs at Lv QO uB⊢;refine Go.assign (d:=aa (cs.map gX)) C (by z_go) (Ew.dq C ((True/\bB (bG cs))/\(∀u1∈(aN (bG cs)),True/\True/\(true=true->((True/\True/\ax u1 (D.int 1))/\(True/\dz (D.int 2))/\ax (idx u1 (D.int 1)) (a9 (D.int 2)))))/\length (map (λu2=>(idx (idx u2 (D.int 1)) (a9 (D.int 2)))) (aN (bG cs)))<=sizeLine) (D.list (map (λu3=>(idx (idx u3 (D.int 1)) (a9 (D.int 2)))) (aN (bG cs)))) ?_ ?_) (by z_go) ?_
  .refine⟨⟨Wa,Wa⟩,aq (xs:=cs) (enc:=jb) λo ho=>?_,?_⟩
   .rw[DW];exact⟨Wa,Wa,λ_=>⟨⟨Wa,Wa,HA o (by decide) (by decide)⟩,⟨Wa,Wa⟩,(yU (D2 o ho)).1⟩⟩
   refine(?_:((cs.map jb).map _).length<=sizeLine);simp[sizeLine];exact Vz ‹_› (Tc rfl)
  .refine(?_:D.list (map _ (cs.map jb))=_);rw[b7 (g:=λo=>D.int (gX o)) λo ho=>by simp only[DW,(yU (D2 o ho)).2]];simp[aa]
  have QZ:(cs.map gX).length<=1000:=by simpa using ME
  generalize cs.map gX=ab at QZ uB⊢;refine Go.assign (d:=hV (ab.map (bF ab fs))) C (by z_go) (Ew.dq C ((True/\bB (aa ab))/\(∀u1∈(aN (aa ab)),True/\True/\(true=true->(((True/\(True/\True)/\fA.eS (S "count") (aa ab) [u1])/\(((((True/\bB (bG fs))/\(∀u3∈(aN (bG fs)),True/\(((True/\True/\ax u3 (D.int 1))/\(True/\dz (D.int 2))/\ax (idx u3 (D.int 1)) (a9 (D.int 2)))/\True/\aV .Eq (idx (idx u3 (D.int 1)) (a9 (D.int 2))) u1)/\((ag .Eq (idx (idx u3 (D.int 1)) (a9 (D.int 2))) u1)=true->True))/\length (map (λu4=>(D.int 1)) (filter (λu4=>(ag .Eq (idx (idx u4 (D.int 1)) (a9 (D.int 2))) u1)) (aN (bG fs))))<=sizeLine)/\True)/\1=1/\dO (D.list (map (λu2=>(D.int 1)) (filter (λu2=>(ag .Eq (idx (idx u2 (D.int 1)) (a9 (D.int 2))) u1)) (aN (bG fs))))))/\True))/\2<=sizeLine)))/\length (map (λu5=>(D.tup [(fA.cZ (S "count") (aa ab) [u5]),(bh (D.list (map (λu6=>(D.int 1)) (filter (λu6=>(ag .Eq (idx (idx u6 (D.int 1)) (a9 (D.int 2))) u5)) (aN (bG fs))))))])) (aN (aa ab)))<=sizeLine) (D.list (map (λu7=>(D.tup [(fA.cZ (S "count") (aa ab) [u7]),(bh (D.list (map (λu8=>(D.int 1)) (filter (λu8=>(ag .Eq (idx (idx u8 (D.int 1)) (a9 (D.int 2))) u7)) (aN (bG fs))))))])) (aN (aa ab)))) ?_ ?_) (by z_go) ?_
  .refine⟨⟨Wa,Wa⟩,aq (xs:=ab) (enc:=D.int) λx hx=>?_,?_⟩
   .refine⟨Wa,Wa,λ_=>?_⟩
    repeat' (first|with_reducible exact True.intro|with_reducible refine And.intro ?_ ?_|(decide))
    .exact lF _ _
    .exact trivial
    .refine aq (xs:=fs) (enc:=jb) λo ho=>?_;(simp only[DW];refine Eq.substr ((yU (Lv o ho)).2) ?_);exact⟨Wa,⟨⟨⟨Wa,Wa,HA o (by decide) (by decide)⟩,⟨Wa,Wa⟩,(yU (Lv o ho)).1⟩,Wa,Wa⟩,λ_=>trivial⟩
    .rw[US];refine Vz (Td _ _) ?_;refine(?_:(fs.map jb).length<=sizeLine);simp[sizeLine];exact Vz ‹_› (by decide)
    refine(?_:length (map _ _)<2^62);rw[US];refine TV (Td _ _) ?_;refine(?_:(fs.map jb).length<2^62);rw[US];exact TV ‹_› (by decide)
   refine(?_:((ab.map D.int).map _).length<=sizeLine);simp[sizeLine];exact Vz ‹_› (Tc rfl)
  .refine(?_:D.list (map _ (ab.map D.int))=_);refine(V4 D.list (b7 (g:=λx=>v3 (bF ab fs x)) λx hx=>?_)).trans ?_
   .rw[fj];refine(?_:D.tup [_,D.int (length (map _ (filter _ (fs.map jb))))]=_);have e:=bX (enc:=jb) (xs:=fs) (P:=λu=>ag .Eq (idx (idx u (D.int 1)) (a9 (D.int 2))) (D.int x)) (p:=λo=>decide (gX o=x)) λo ho=>by simp only[DW,(yU (Lv o ho)).2];rfl
    rw[US,e,US];rfl
   unfold hV;rw[VA];rfl
  have R8:(ab.map (bF ab fs)).length=ab.length:=by exact US ..
  refine Go.eV (d:=yM (aJ paired ab fs)) C (by z_go) (bw.dq C (((((True/\True)/\1=1/\dO (aa ab))/\True)/\i6 false (S "range") [(bh (aa ab))])/\(∀u1∈(kC (S "range") [(bh (aa ab))]),True/\((True/\True/\ax (aa ab) u1)/\(True/\True/\True/\nH (aa ab) none (some u1))/\aV .NotIn (idx (aa ab) u1) (j6 (aa ab) none (some u1)))/\((ag .NotIn (idx (aa ab) u1) (j6 (aa ab) none (some u1)))=true->(((True/\True/\ax (aa ab) u1)/\(((True/\pn (.bool paired))/\((tr (.bool paired))=true->(True/\True/\ax (hV (ab.map (bF ab fs))) u1))/\((tr (.bool paired))=false->(((True/\True/\ax (hV (ab.map (bF ab fs))) u1)/\True)/\1=1/\sH (idx (hV (ab.map (bF ab fs))) u1))))/\True))/\2<=sizeLine)))/\length (map (λu2=>(D.tup [(idx (aa ab) u2),(if(tr (.bool paired))=true then(idx (hV (ab.map (bF ab fs))) u2)else(si (idx (hV (ab.map (bF ab fs))) u2)))])) (filter (λu2=>(ag .NotIn (idx (aa ab) u2) (j6 (aa ab) none (some u2)))) (kC (S "range") [(bh (aa ab))])))<=sizeLine) (D.list (map (λu3=>(D.tup [(idx (aa ab) u3),(if(tr (.bool paired))=true then(idx (hV (ab.map (bF ab fs))) u3)else(si (idx (hV (ab.map (bF ab fs))) u3)))])) (filter (λu3=>(ag .NotIn (idx (aa ab) u3) (j6 (aa ab) none (some u3)))) (kC (S "range") [(bh (aa ab))])))) ?_ ?_) (by z_go) ?_
  .rw[wi];refine⟨⟨⟨⟨⟨Wa,Wa⟩,rfl,?_⟩,Wa⟩,?_⟩,aq (xs:=List.range ab.length) (enc:=λ(k:Nat)=>D.int k) λk hk=>?_,?_⟩
   .refine(?_:(ab.map D.int).length<2^62);rw[US];exact TV ‹_› (by decide)
   .exact AQ ab (Vz ‹_› (Tc rfl))
   .have e8:k<ab.length:=Vm.mp hk;have e1:=sG ab e8 (Vz ‹_› (Tc rfl));have e2:=gv (xs:=ab.map (bF ab fs)) (enc:=v3) (i:=(k:Int)) rfl (SK (by simpa using e8)) (by simp;exact TV ‹_› (by decide));(refine Eq.substr e1.2 ?_;refine Eq.substr (Eb ab k) ?_);refine⟨Wa,?_,λ_=>?_⟩
    .repeat' (first|with_reducible exact True.intro|with_reducible refine And.intro ?_ ?_|(decide))
     .exact e1.1
     .exact⟨by simp[sizeLine];exact Vz ‹_› (by decide),Wa,Wa⟩
     exact⟨rfl,bC _,VO _⟩
    rw[show idx (hV (ab.map (bF ab fs))) (.int k)=_ from e2.2]
    repeat' (first|with_reducible exact True.intro|with_reducible refine And.intro ?_ ?_|(decide))
    .exact e1.1
    .exact trivial
    .exact λ_=>⟨Wa,Wa,e2.1⟩
    exact λ_=>⟨⟨⟨Wa,Wa,e2.1⟩,Wa⟩,rfl,BI _ _⟩
   rw[US];refine Vz (Td _ _) ?_;simp[sizeLine];exact Vz ‹_› (Tc rfl)
  .rw[wi];refine(V4 D.list ((V4 _ (bX (p:=λk=>decide (ab.getD k 0∉ab.take k)) λk hk=>?_)).trans (b7 (g:=λk=>BP (ab.getD k 0,mM paired (bF ab fs (ab.getD k 0)))) λk hk=>?_))).trans ?_
   .have e8:k<ab.length:=Vm.mp hk;rw[(sG ab e8 (Vz ‹_› (Tc rfl))).2,Eb ab k];exact gB _ _
   .have e8:k<ab.length:=Vm.mp (UW.mp hk).1;have e2:=gv (xs:=ab.map (bF ab fs)) (enc:=v3) (i:=(k:Int)) rfl (SK (by simpa using e8)) (by simp;exact TV ‹_› (by decide));simp only[(sG ab e8 (Vz ‹_› (by decide))).2,show idx (hV (ab.map (bF ab fs))) (.int k)=_ from e2.2,getElem_map,show ab[k]=ab.getD k 0 by rw[Su,SK e8];rfl];induction paired using Bool.casesOn
    .refine(?_:D.tup [D.int _,D.int (List.sum [_,_])]=D.tup [D.int _,D.int (_+_)]);simp only[Vv,Vv,VJ,VM];rfl
    rfl
   unfold yM aJ;rw[VA];rfl
  have e9:gr paired (names.take (i+1)) log told=gr paired (names.take i) log told++qa paired log told nm:=by unfold gr;rw[Ug,hi];simp
  have eH:ag .NotEq (bG cs) (D.list [])=decide (cs≠[]):=by
   induction cs using List.casesOn with
   |nil=>rfl
   |cons c cs=>rfl
  refine Go.ite (c:=decide (cs≠[])) (Tw.dq C (True/\(True/\0<=sizeLine)/\aV .NotEq (bG cs) (D.list [])) (ag .NotEq (bG cs) (D.list [])) ?_ ?_) (λh=>?_) λh=>Go.nil (du.nil (Go.nil ?_))
  .repeat' (first|with_reducible exact True.intro|with_reducible refine And.intro ?_ ?_|(exact VO _))
   exact⟨A9 cs,rfl,Ba cs⟩
  .exact eH
  .have m9:cs≠[]:=by simpa using h
   refine Go.append (l:=lr) (ds:=(gr paired (names.take i) log told).map B1) (d:=B1 ⟨nm,fs.length,cs.length,(told.map (·.2)).count nm,(fs.map λo=>o.b - o.a).sum,aJ paired ab fs⟩) rfl (by z_go) (by z_go) (by z_go) (Ew.dq C ((True/\(((((True/\True)/\1=1/\dO (bG fs))/\(((True/\True)/\1=1/\dO (bG cs))/\((((True/\bB (cm told))/\(∀u4∈(aN (cm told)),i5 u4 2/\True/\(true=true->True))/\length (map (λu5=>(headD (tail (aF u5)) D.none)) (aN (cm told)))<=sizeLine)/\(True/\True)/\fA.eS (S "count") (D.list (map (λu6=>(headD (tail (aF u6)) D.none)) (aN (cm told)))) [(.int nm)])/\(((((True/\bB (bG fs))/\(∀u2∈(aN (bG fs)),True/\True/\(true=true->((True/\True/\ax u2 (D.int 3))/\(True/\True/\ax u2 (D.int 2))/\bf .Sub (idx u2 (D.int 3)) (idx u2 (D.int 2)))))/\length (map (λu3=>(ae .Sub (idx u3 (D.int 3)) (idx u3 (D.int 2)))) (aN (bG fs)))<=sizeLine)/\True)/\1=1/\sH (D.list (map (λu1=>(ae .Sub (idx u1 (D.int 3)) (idx u1 (D.int 2)))) (aN (bG fs)))))/\True))))/\4<=sizeLine)/\(True/\True)))/\3<=sizeLine) (D.tup [(.int nm),(D.tup [(bh (bG fs)),(bh (bG cs)),(fA.cZ (S "count") (D.list (map (λu7=>(headD (tail (aF u7)) D.none)) (aN (cm told)))) [(.int nm)]),(si (D.list (map (λu8=>(ae .Sub (idx u8 (D.int 3)) (idx u8 (D.int 2)))) (aN (bG fs)))))]),(yM (aJ paired ab fs))]) ?_ ?_) (by have:=yf paired (names.take i) log told;simp[sizeLine]at this⊢;exact(A3 [.e Va q0,.e Vb (.i Vc Va)] (.e Vb kF)) hn this) (by z_go) (Go.nil (du.nil (Go.nil ?_)))
   .repeat' (first|with_reducible exact True.intro|with_reducible refine And.intro ?_ ?_|(decide))
    .refine(?_:(fs.map jb).length<2^62);rw[US];exact TV ‹_› (by decide)
    .refine(?_:(cs.map jb).length<2^62);rw[US];exact TV ‹_› (by decide)
    .exact trivial
    .refine aq (xs:=told) (enc:=λp=>.tup [.int p.1,.int p.2]) λp hp=>?_;exact⟨rfl,Wa,λ_=>trivial⟩
    .refine(?_:((told.map _).map _).length<=sizeLine);simp[sizeLine];exact Vz ‹_› (by decide)
    .rw[td];exact lF _ _
    .exact trivial
    .refine aq (xs:=fs) (enc:=jb) λo ho=>?_;exact⟨Wa,Wa,λ_=>⟨⟨Wa,Wa,HA o (by decide) (by decide)⟩,⟨Wa,Wa,HA o (by decide) (by decide)⟩,Wa⟩⟩
    .refine(?_:((fs.map _).map _).length<=sizeLine);simp[sizeLine];exact Vz ‹_› (by decide)
    rw[JF];exact lI _ id
   .rw[td,fj,JF];refine(?_:D.tup [_,D.tup [D.int ((fs.map jb).length:Nat),D.int ((cs.map jb).length:Nat),_,D.int (((fs.map λo=>o.b - o.a).map D.int).map je).sum],_]=_);rw[US,US,rF];rfl
   rw[if_neg m9]at uB;rw[uB]at e9;refine⟨.val (.int nm),.val (bG cs),.val (bG fs),.val (aa ab),.val (hV (ab.map (bF ab fs))),.val (yM (aJ paired ab fs)),?_⟩;rw[e9];unfold gq;rw[UT];rfl
  have m9:cs=[]:=by simpa using h
  rw[if_pos m9]at uB;rw[uB,UX]at e9;refine⟨.val (.int nm),.val (bG cs),.val (bG fs),.val (aa ab),.val (hV (ab.map (bF ab fs))),.val (yM (aJ paired ab fs)),?_⟩;rw[e9];rfl
 intro az bx;refine dm bx λs1 s2 s3 s4 s5 s6 kD=>?_;clear bx;subst kD;rw[UA];exact Go.ret (d:=gq (gr paired names log told)) ⟨Ev.Hy rfl⟩ rfl
section
variable{G:Gd}{n:Nat}{Lb:jX}{name:Str}{scope:Scope}{vars:List Str}{L a:Addr}{cd:Value}{aD:XS}{ρ:RE}{ss:List Stmt}{Φ:Ph}
def Go.F6(C:Cf G n Lb scope vars){α:Type}(enc:α->D)(N:Nat)(zf:List α)(Inv:Nat->List α->RE->Prop)(c:xt scope vars t=true)(cx:jn x=true)(hv:vars[(nA vars x).getD 0]? =some x)(hb:∀y,gS t (enc y))
 (hm:ρ[(nA vars x).getD 0]? =some (.own l (.list (zf.map enc))))(h0:Inv 0 zf ρ)
 (hI:∀i xs az,Inv i xs az->az[(nA vars x).getD 0]? =some (.own l (.list (xs.map enc)))/\i<=xs.length/\xs.length<=N)
 (turn:∀i xs y az,xs[i]? =some y->Inv i xs az->Go G (fx name scope vars L a cd aD) n (ry vars t (enc y) az) body (Turn (λj ck=>∃B5,Inv j B5 ck) i Φ))
 (fin:∀xs az,Inv xs.length xs az->Go G (fx name scope vars L a cd aD) n az ss Φ):Go G (fx name scope vars L a cd aD) n ρ (.For t (.Name x p) body [] pos::ss) Φ:=by
 refine dW (gc cx) λh1 h2 h3=>?_;refine .of (bQ.F6 (l:=l) _ N hv (λi ds az=>∃xs,ds=xs.map enc/\Inv i xs az) hm ⟨zf,rfl,h0⟩ (λi ds az m8=>ao m8 λxs e hi=>?_) (λi ds d az hd w5=>ao w5 λxs e hi=>?_) (λds az yH=>ao yH λxs e hi=>?_) h1 h2 h3 (λv=>jL rfl))
 .subst e;rw[US];exact hI i xs az hi
 .subst e;rw[Uc]at hd;obtain⟨y,hy,rfl⟩:=SS.mp hd;refine bH _ (v7 C c (hb y)) ((turn i xs y az hy hi).ex.mono λfl kG q=>?_);induction fl using Fl.casesOn with
  |next=>refine aO q λB5 q=>?_;exact sQ _ B5 rfl q
  |ret d=>exact q
 subst e;rw[US]at hi;exact fin xs az hi
end
def il:dz (D.int i):=trivial
structure Sw(G:Gd)(F:Fx)(n:Nat)(ρ:RE)(st:Stmt)(Φ:Ph):Prop where
 ex:bQ G F n ρ st Φ
def Go.cut{st:Stmt}(gi:RE)(h:Sw G F n ρ st (λfl az=>fl=.next/\az=gi))(r:Go G F n gi ss Φ):Go G F n ρ (st::ss) Φ:=
 .of (h.ex.mono λfl az L8=>cu L8 λe1 e2=>by subst e1 e2;exact r)
def Sw.ite(x:Tw G F n ρ t c)(y:c=true->Go G F n ρ b Φ)(z:c=false->Go G F n ρ o Φ):Sw G F n ρ (.If t b o pos) Φ:=
 ⟨bQ.ite x.ev (λh=>(y h).ex) λh=>(z h).ex⟩
def KS{α:Type}{xs:List α}{enc:α->D}{x:α}(hj:1<=j)(hx:xs[xs.length - j]? =some x)(h:j<=xs.length)(hz:xs.length<2^40):ax (.list (xs.map enc)) (.int (-(j:Int)))/\idx (.list (xs.map enc)) (.int (-(j:Int)))=enc x:=by
 refine⟨⟨by rw[US];exact(A2 [.e Va Vb] (.E (.g ew) pP)) h,by rw[US];exact(A2 [.e K1 Va] (.L pP ew)) hj,by rw[US];exact Us hz⟩,?_⟩;refine(?_:ke (xs.map enc) (-(j:Int)) .none=_);unfold ke;rw[if_neg (by exact(A1 [.e K1 Va] (.n (.E K0 pP))) hj),US];have e:(-(j:Int)+(xs.length:Int)).toNat=xs.length - j:=by exact(A3 [.i (.E K0 (.a pP ew)) (.Q (.o Vc) (.a pP ew)),.i (.E (.a pP ew) K0) (.q Vc K0)] (.q Vc ux)) TJ TQ
 (refine Eq.substr e ?_;refine V3 Su ?_;refine Eq.substr Uc ?_;refine Eq.substr hx ?_);rfl
def BE{α:Type}(xs:List α)(k:Nat):cut xs (some (k:Int)) none=xs.drop k:=by
 unfold cut;simp only[Option.elim,jx];by_cases h:k<=xs.length
 .rw[U3 h,SU];rw[UO];exact VP _
 (refine Eq.substr (UM (by exact UN h)) ?_;refine Eq.substr (SV (VP _)) ?_;refine V3 ?_ (V7 (SV (by exact UN h)));exact take_nil)
def BD{α:Type}(xs:List α):cut xs none (some (-((1:Nat):Int)))=xs.dropLast:=by unfold cut;simp only[Option.elim,tN _ 1 (by exact VC _),Vp,Nat.sub_zero];rw[dropLast_eq_take]
structure Wi where
 nm:Int
 at_:Int
 k:Int
 deriving DecidableEq
noncomputable def yC(w:Wi):D:=.tup [.int w.nm,.int w.at_,.int w.k]
set_option genInjectivity false in
structure eC where
 pile:List Int
 within:List Wi
 told:Told
 book:Bk
 log:List Lg
noncomputable def bp(ws:List Wi):D:=.list (ws.map yC)
noncomputable def jf(s:eC):D:=.tup [aa s.pile,bp s.within,cm s.told,d0 s.book,bG s.log]
structure Out where
 text:List Nat
 noted:List Du
 due:List Du
noncomputable def outD(o:Out):D:=.tup [.str (T o.text),gq o.noted,gq o.due]
noncomputable def el(rs:List (List Int)):D:=.list (rs.map aa)
noncomputable abbrev Sp:=List (Int×Nat)
noncomputable def gj(sp:Sp):D:=.aG (sp.map λp=>(p.1,.str (one p.2)))
noncomputable def fB(log:List Lg):List Lg:=log.mergeSort λa b=>decide (a.k<=b.k)
set_option genInjectivity false in
structure fV where
 n0:Int
 names:List Int
 rules:List fN
 sp:Sp
 picks:List Int
noncomputable def fV.paired(P:fV):Bool:= !P.picks.isEmpty
section
variable(P:fV)
noncomputable def stackOf(s:eC):List Int:=0::s.within.map (·.nm)
noncomputable def aW(s:eC):Int:=(stackOf s).getD ((stackOf s).length - 1) 0
noncomputable def lastOf(s:eC):Wi:=s.within.getD (s.within.length - 1) ⟨0,0,0⟩
noncomputable def cg(s:eC):Int:=if(stackOf s).count (aW s)=1 then s.told.length - (lastOf s).at_ else 0
noncomputable def de(s:eC):eC:=⟨s.pile.drop 1,s.within.dropLast,s.told,bo s.book (aW s) ⟨0,0,0,cg s,[]⟩,s.log++[⟨(lastOf s).k,stackOf s,(lastOf s).at_,s.told.length⟩]⟩
noncomputable def cX(s:eC)(x:Int):eC:=⟨s.pile.drop 1,s.within,s.told++[(x,aW s)],bo s.book (aW s) ⟨0,0,1,0,[]⟩,s.log⟩
noncomputable def cA(s:eC)(x:Int):Int:=if x∈stackOf s then 0 else 1
noncomputable def callsOf(s:eC):Nat:=s.log.length+s.within.length
noncomputable def ed(s:eC)(x:Int):En:=⟨cA s x,1,0,0,[(aW s,if P.paired=true then .p 1 (cA s x)else .n (1+cA s x))]⟩
noncomputable def bU(s:eC)(x:Int):Bk:=bo s.book x (ed P s x)
noncomputable def aL(x:Int):List (List Int):=(P.rules.filter λr=>decide (r.1=x)).map (·.2)
noncomputable def pickOf(s:eC)(x:Int):Int:=if callsOf s<P.picks.length then P.picks.getD (callsOf s) 0 else if x=P.n0 then 0 else 1
noncomputable def bV(s:eC)(x:Int):List (List Int):=
 if P.paired=true then[(aL P x).getD (pickOf P s x).toNat []]
 else if(f7 (bU P s x) x).cc≠(f7 (bU P s x) x).nc\/2<s.within.length then[]else aL P x
noncomputable def cq(s:eC)(x:Int)(r:List Int):eC:=⟨r++[0]++s.pile.drop 1,s.within++[⟨x,s.told.length,callsOf s⟩],s.told,bU P s x,s.log⟩
noncomputable def br(s:eC):List eC:=match s.pile with
 |[]=>[]
 |x::_=>if x=0 then[de s]else if x<256 then[cX s x]else(bV P s x).map (cq P s x)
noncomputable def textOf(sp:Sp)(told:Told):List Nat:=told.map λp=>(look sp p.1).getD 0
noncomputable def iN(names:List Int)(bk:Bk):List Du:=(names.filter λnm=>(look bk nm).isSome).map λnm=>⟨nm,(f7 bk nm).cc,(f7 bk nm).nc,(f7 bk nm).tt,(f7 bk nm).ct,(f7 bk nm).cl⟩
noncomputable def mG(s:eC):Out:=⟨textOf P.sp s.told,iN P.names s.book,gr P.paired P.names (fB s.log) s.told⟩
noncomputable def outs(s:eC):List Out:=if s.pile=[]then[mG P s]else[]
noncomputable def eI(bg:eC):Nat->List eC
 |0=>[bg]
 |i+1=>match(eI bg i)[i]? with
  |some s=>eI bg i++br P s
  |none=>eI bg i
structure sY(s:eC):Prop where
 pile:s.pile.length<=1000
 within:s.within.length<=60
 told:s.told.length<=1000
 log:s.log.length<=60
 Ka:∀o∈s.log,o.ok
 Ng:(s.log.map (·.k)).Nodup
 book:s.book.length<=1000
 kind:s.book.kind P.paired
 cls:∀kv∈s.book,kv.2.cl.length<=900
 rB:∀p∈s.told,(look P.sp p.1).isSome=true
 eof:∀p,s.pile=0::p->s.within≠[]
 pick:∀x p,s.pile=x::p->256<=x->P.paired=true->0<=pickOf P s x/\pickOf P s x<(aL P x).length
structure sZ:Prop where
 names:P.names.length<=10
 hn:P.names.head? =some P.n0
 rules:P.rules.length<=100
 rights:∀r∈P.rules,r.2.length<=100
 picks:P.picks.length<=10
noncomputable def start:eC:=⟨[P.n0],[],[],[],[]⟩
noncomputable def wholeOf(xs:List eC):List Out:=xs.flatMap (outs P)
end
def gz(log:List Lg):(fB log).Perm log:=TR _ _
def xF(log:List Lg):(fB log).length=log.length:=(gz log).length_eq
def lK(log:List Lg):(fB log).Pairwise λa b=>a.k<=b.k:=by have:=pairwise_mergeSort (le:=λ(a b:Lg)=>decide (a.k<=b.k)) (λa b c h1 h2=>by simp at*;exact Int.le_trans ‹_› ‹_›) (λa b=>by simp;exact Int.le_total a.k b.k) log;exact this.imp λh=>by simpa using h
theorem eY{α:Type}(r:α->Int):∀{xs ys:List α},xs.Perm ys->(xs.map r).Nodup->xs.Pairwise (λa b=>r a<=r b)->ys.Pairwise (λa b=>r a<=r b)->xs=ys
 |[],ys,h,_,_,_=>(Perm.nil_eq h)
 |x::xs,[],h,_,_,_=>by have:=h.length_eq;trivial
 |x::xs,y::ys,h,hn,h1,h2=>by
  have Mc:x=y:=by
   have hx:x∈y::ys:=h.mem_iff.mp (.head _);have hy:y∈x::xs:=h.mem_iff.mpr (.head _);rcases Vr.mp hx with e|hx
   .exact e
   rcases Vr.mp hy with e|hy
   .exact e.symm
   have a:=(T7.mp h2).1 x hx;have b:=(T7.mp h1).1 y hy;have e:r x=r y:=by exact Int.le_antisymm b a
   rw[Vt,UZ]at hn;exact absurd (e▸TP hy) hn.1
  subst Mc;rw[Vt,UZ]at hn;rw[eY r (Perm.cons_inv h) hn.2 (T7.mp h1).2 (T7.mp h2).2]
def x6{n:Nat}(h:log.length<64)(hk:(log.map (·.k)).Nodup):PL G n [bG log] (λvs=>call (.builtin "sorted") vs) (bG (fB log)):=by
 have e1:(log.map jb).map nR=log.map (·.k):=by rw[VA];rfl
 refine x4 (by rw[US];exact h) (λd hd=>?_) (by rw[e1];exact hk) λys hy=>?_
 .obtain⟨o,_,rfl⟩:=VB.mp hd;exact pA _ _ rfl
 have hp:((fB log).map jb).Perm (log.map jb):=(gz log).map _;refine eY nR (hy.1.trans hp.symm) ?_ hy.2 ?_
 .exact((hy.1.map nR).nodup_iff).mpr (by rw[e1];exact hk)
 rw[Ul];exact lK log
noncomputable def isName(f:Str):Bool:=f==S "ISEOF"||f==S "ISTERMINAL"||f==S "ISNONTERMINAL"
noncomputable def P6(f:Str)(i:Int):D:=if f==S "ISEOF" then .bool (decide (i=0))else if f==S "ISTERMINAL" then .bool (decide (i<256))else .bool (decide (256<=i))
noncomputable def isCall(f:Str)(ds:List D):D:=P6 f (je (ds.headD .none))
noncomputable def isOk(ds:List D):Prop:=Fd (ui λ_=>True) ds
noncomputable def dt:jX:=eP isName isCall (λ_ ds=>isOk ds)
def wB(W:Wd G):i8 G (n+1) dt:=fh W λf ds hf ho=>by
 obtain⟨x,rfl,ho⟩:=lZ ho;(refine ao (eB ho) λi aB ho=>?_;subst aB);delta isName at hf;simp only[U0,VX]at hf;rcases hf with(rfl|rfl)|rfl
 .exact .fn (Hk W i)
 .exact .fn (Hi W i)
 exact .fn (Hj W i)
def BH(h:(eI P bg i)[i]? =some s):eI P bg (i+1)=eI P bg i++br P s:=by refine(?_:(match(eI P bg i)[i]? with|some s=>eI P bg i++br P s|none=>eI P bg i)=_);rw[h]
def tT(h:i<=j):(eI P bg i).length<=(eI P bg j).length:=by
 induction j with
 |zero=>rw[le_zero.mp h];exact VP _
 |succ j ih=>
  rcases Nat.lt_or_ge j i with q|q
  .rw[show i=j+1 by exact Nat.le_antisymm ‹_› ‹_›];exact VP _
  refine Vz (ih q) ?_;refine(?_:_<=(match(eI P bg j)[j]? with|some s=>eI P bg j++br P s|none=>eI P bg j).length);split
  ·rw[TU];exact UB _ _
  exact VP _
def DN(h:(eI P bg i).length=i):∀j,i<=j->eI P bg j=eI P bg i:=λj=>by
 induction j with
 |zero=>intro q;rw[le_zero.mp q]
 |succ j ih=>
  intro q;rcases Nat.lt_or_ge j i with q'|q'
  .rw[show i=j+1 by exact Nat.le_antisymm ‹_› ‹_›]
  refine(?_:(match(eI P bg j)[j]? with|some s=>eI P bg j++br P s|none=>eI P bg j)=_);(refine Eq.substr (ih q') ?_;refine Eq.substr (Tg (by exact le_of_eq_of_le h q')) ?_;rfl)
def yV(t:Told):bh (cm t)=.int (t.length:Nat):=by show D.int _=_;rw[US]
def IW(t:List Lg):bh (bG t)=.int (t.length:Nat):=by show D.int _=_;rw[US]
def CL(t:List Wi):bh (bp t)=.int (t.length:Nat):=by show D.int _=_;rw[US]
def CM(t:List Int):bh (aa t)=.int (t.length:Nat):=by show D.int _=_;rw[US]
def mf(s:eC):(stackOf s).length=s.within.length+1:=by simp[stackOf]
def Pu(h:s.within.length<=60):ax (aa (stackOf s)) (a9 (.int 1))/\idx (aa (stackOf s)) (a9 (.int 1))=.int (aW s):=
 rP (stackOf s) (j:=1) (by rw[mf];exact VC _) (by exact VP _) (by rw[mf];exact TV ‹_› (by decide))
def JN(h:s.within.length<=60)(hn:s.within≠[]):ax (bp s.within) (a9 (.int 1))/\idx (bp s.within) (a9 (.int 1))=yC (lastOf s):=by have hl:0<s.within.length:=TN.mpr hn;refine KS (enc:=yC) (j:=1) (by exact VP _) ?_ (by assumption) (by exact TV ‹_› (by decide));delta lastOf;rw[Su,SK (by exact sub_lt ‹_› (by exact VC _))];rfl
def vT(w:Wi)(h0:0<=i)(h1:i<3):ax (yC w) (.int i):=⟨by show -(3:Int)<=i;exact(I1 [.E K0 Qa] (.E (.g K3) Qa)) h0,by show i<(3:Int);exact TF h1,by show 3<2^40;decide⟩
def rz(h:∀kv∈bk,kv.2.cl.length<=b)(nm:Int):(f7 bk nm).cl.length<=b:=by
 delta f7;induction e:look bk nm using Option.casesOn with
 |none=>exact VO _
 |some w=>refine bq (gg e) λx hx h2 _=>?_;rw[Option.getD_some,<-h2];exact h x hx
def wH(xs:List Int):ag .Eq (aa xs) (D.list [])=decide (xs=[]):=by induction xs using List.casesOn<;>rfl
def xx(P:fV)(xs:List eC):(wholeOf P xs).length<=xs.length:=by
 delta wholeOf;induction xs with
 |nil=>exact VO _
 |cons n ns ih=>
  simp only[Um,TU,Ux];have:(outs P n).length<=1:=by delta outs;split<;>exact Tc rfl
  exact(A3 [.e Va Vb,.e Vc K1] (.e (.a Vc Va) f9)) ih this
def gI(h:(look bk nm).isSome=true):idx (d0 bk) (.int nm)=gC (f7 bk nm)/\ax (d0 bk) (.int nm):=by
 have e:=fi gC bk nm;refine aO (SM.mp h) λw hw=>?_;refine⟨?_,?_⟩
 .refine(?_:(look (bk.map bE) nm).getD .none=_);rw[e];delta f7;rw[hw];rfl
 refine(?_:(look (bk.map bE) nm).isSome=true);(refine V3 (V4 _ e) ?_;refine Eq.substr hw ?_);rfl
def Et(bk:Bk)(nm:Int):ag .In (.int nm) (d0 bk)=(look bk nm).isSome:=by refine(?_:(look (bk.map bE) nm).isSome=_);rw[fi gC];simp
def lh(h:(look sp k).isSome=true):idx (gj sp) (.int k)=.str (one ((look sp k).getD 0))/\ax (gj sp) (.int k):=by
 have e:=fi (λc=>D.str (one c)) sp k;refine aO (SM.mp h) λw hw=>?_;refine⟨?_,?_⟩
 .refine(?_:(look (sp.map λp=>(p.1,D.str (one p.2))) k).getD .none=_);(refine Eq.substr e ?_;refine Eq.substr hw ?_);rfl
 refine(?_:(look (sp.map λp=>(p.1,D.str (one p.2))) k).isSome=true);rw[e,hw];rfl
def Rr(e:En):j6 (gC e) none (some (.int 4))=.tup [.int e.cc,.int e.nc,.int e.tt,.int e.ct]:=rfl
def NO(e:En):itemsOf (idx (gC e) (.int 4))=yM e.cl:=by refine(?_:D.list (dv (e.cl.map cE))=_);delta dv;rw[VA];rfl
def zL(e:En)(h0:0<=i)(h1:i<5):ax (gC e) (.int i):=⟨by show -(5:Int)<=i;exact(I1 [.E K0 Qa] (.E (.g (.c 5)) Qa)) h0,by show i<(5:Int);exact TF h1,by show 5<2^40;decide⟩
def GX(l:List Nat):Txt.join ⟨#[]⟩ ((l.map λc=>D.str (one c)).map toS)=T l:=by
 rw[VA];delta Txt.join Builtin.Str.glued;induction l using List.casesOn with
 |nil=>rfl
 |cons c cs=>
  have:∀(cs:List Nat) (acc:Array Nat),(cs.map (toS∘λc=>D.str (one c))).foldl (λacc p=>acc++(⟨#[]⟩:Str).cps++p.cps) acc=acc++cs.toArray:=λcs=>by
   induction cs with
   |nil=>intro acc;rfl
   |cons c cs ih=>intro acc;rw[Vt,UY,ih];refine(?_:acc++ #[]++ #[c]++cs.toArray=acc++(c::cs).toArray);apply Array.ext';simp
  refine(?_:(⟨((cs.map (toS∘λc=>D.str (one c))).foldl (λacc p=>acc++(⟨#[]⟩:Str).cps++p.cps) #[c])⟩:Str)=_);rw[this];refine(?_:(⟨#[c]++cs.toArray⟩:Str)=⟨(c::cs).toArray⟩);congr 1;apply Array.ext';simp
def qh(h:∀p∈told,(look sp p.1).isSome=true):D.list (map (λu=>idx (gj sp) ((aF u).headD D.none)) (aN (cm told)))=.list ((textOf sp told).map λc=>D.str (one c)):=by refine(?_:D.list (map _ (told.map λp=>D.tup [.int p.1,.int p.2]))=_);delta textOf;rw[b7 (enc:=λp=>D.tup [.int p.1,.int p.2]) (g:=λp=>D.str (one ((look sp p.1).getD 0))) λp hp=>(lh (h p hp)).1,VA];rfl
def lD(P:fV):ag .NotEq (aa P.picks) (D.list [])=P.paired:=by
 delta fV.paired
 cases P.picks<;>rfl
def lj(x:Int)(ys:List Int):ag .In (.int x) (aa ys)=decide (x∈ys):=by have h:=gB x ys;have e:ag .NotIn (.int x) (aa ys)= !ag .In (.int x) (aa ys):=rfl;rw[e]at h;have:=V4 not h;rw[Bool.not_not]at this;rw[this];simp
def e6{κ α:Type}[DecidableEq κ](aH:List (κ×α))(k:κ)(d:α):look (d8 aH k d) k=some d:=by
 delta look d8;split
 ·rename_i h;induction aH with
  |nil=>simp at h
  |cons x xs ih=>
   by_cases hx:x.1=k
   .simp[hx]
   have h':xs.any (λkv=>decide (kv.1=k))=true:=by simpa[hx]using h
   rw[Vt,SW (by simp[hx])];exact ih h'
 rename_i h;have:aH.find? (λkv=>decide (kv.1=k))=none:=by rw[find?_eq_none];intro x hx q;exact h (UR.mpr ⟨x,hx,q⟩)
 rw[find?_append,this];simp
def vt(bk:Bk)(nm:Int)(e:En):look (bo bk nm e) nm=some (ji (f7 bk nm) e):=by delta bo;rw[Ui];exact e6 _ _ _
noncomputable def uS(log:List Lg)(due:List Du)(ds:List D):jX:=eP (λf=>f==S "sorted"||f==S "_law_due") (λf _=>if f==S "sorted" then bG (fB log)else gq due) (λf xs=>if f==S "sorted" then xs=[bG log]else xs=ds)
noncomputable def nI:List Str:=[S "names",S "rules",S "spelled",S "picks",S "states",S "whole",S "pile",S "within",S "told",S "book",S "log",S "stack",S "noted",S "spent",S "after",S "fresh",S "calls",S "rights",S "right"]
local macro_rules | `(tactic|walk_at "c")=> `(tactic|repeat' (first|with_reducible exact True.intro|with_reducible refine And.intro ?_ ?_|(decide)|(with_reducible exact il)))
local macro_rules | `(tactic|walk_at "r")=> `(tactic|repeat' (first|with_reducible exact True.intro|with_reducible refine And.intro ?_ ?_|(rfl)|(with_reducible exact il)))
local macro_rules | `(tactic|walk_at "z")=> `(tactic|repeat' (first|with_reducible exact True.intro|with_reducible refine And.intro ?_ ?_|(exact VO _)|(with_reducible exact il)))
local macro_rules | `(tactic|walk_at "b")=> `(tactic|repeat' (first|with_reducible exact True.intro|with_reducible refine And.intro ?_ ?_|(exact Tc rfl)|(with_reducible exact il)))
def wM(W:Wd G)(hC:iq G)(P:fV)(cp:sZ P)(Good:eC->Prop)(g0:Good (start P))(gn:∀s,Good s->sY P s/\∀t∈br P s,Good t)(N:Nat)(hN:(eI P (start P) N).length=N)(BZ:N<=100000):
 Fn G (Str.ofString "_law_runs") (n+4) [aa P.names,aY P.rules,gj P.sp,aa P.picks] (.list ((wholeOf P (eI P (start P) N)).map outD)):=by
 refine Fn.intro (name:=mL.name) (W.at_ mL) nI (λL l cd aD=>?_) (λu v w x pm cd doc=>rfl) (by decide) (by show 4<=19;exact Tc rfl) (by decide);have C:Cf G (n+3) fA mL.scope nI:=⟨by z_go,ft W⟩;have HI:=gv (xs:=P.names) (enc:=D.int) (i:=0) (j:=0) (x:=P.n0) rfl (by rw[<-head?_eq_getElem?];exact cp.hn) (by have:=cp.names;exact TV ‹_› (by decide));refine Go.ex (Go.lH (bL:=.list [jf (start P)]) (cN:=.list []) C (by z_go) (by z_go) (by decide) (by z_go) (Fw.list (ds:=[jf (start P)]) (Lw.cons (by z_go) (Ew.dq C (let bD:=True/\0<=sizeLine;((((True/\True/\ax (aa P.names) (D.int 0))/\True)/\1<=sizeLine)/\(bD/\(bD/\((True/\Nodup ([]:List Int))/\(bD/\True)))))/\5<=sizeLine) (D.tup [(D.list [(idx (aa P.names) (D.int 0))]),(D.list []),(D.list []),(D.aG []),(D.list [])]) ?_ ?_) Lw.nil) (by show 1<=sizeLine;exact VC _)) (Fw.list Lw.nil (by exact VO _)) (by z_go) (by z_go) λls lw=>?_)
 .walk_at "c"
  exact HI.1
 .rw[show idx (aa P.names) (D.int 0)=.int P.n0 from HI.2];rfl
 refine Go.F6 (l:=ls) C jf N [start P] (λi xs ρ=>xs=eI P (start P) i/\i<=xs.length/\i<=N/\(∀s∈xs,Good s)/\∃s6 s7 s8 s9 kB rU m6 kA E8 B8 B7 B6 yF,ρ=[.val (aa P.names),.val (aY P.rules),.val (gj P.sp),.val (aa P.picks),.own ls (.list (xs.map jf)),.own lw (.list ((wholeOf P (xs.take i)).map outD)),s6,s7,s8,s9,kB,rU,m6,kA,E8,B8,B7,B6,yF])
  (by z_go) (by z_go) rfl (λ_=>rfl) rfl ⟨rfl,by exact VO _,by exact VO _,λs hs=>by simp at hs;exact hs▸g0,_,_,_,_,_,_,_,_,_,_,_,_,_,rfl⟩ ?_ ?_ ?_
 .intro i xs az bx;(refine oy bx λh1 h2 h3 h4 s6 s7 fS=>?_;refine dm fS λs8 s9 kB rU m6 kA uq=>?_;refine k9 uq λE8 B8 B7 B6 yF kD=>?_;clear fS uq bx;subst kD);refine⟨rfl,h2,?_⟩;rw[h1,<-hN];exact tT h3
 .intro i xs s az hi bx;(refine oy bx λh1 h2 h3 h4 s6 s7 fS=>?_;refine dm fS λs8 s9 kB rU m6 kA uq=>?_;refine k9 uq λE8 B8 B7 B6 yF kD=>?_;clear fS uq bx;subst kD);have cB:i<xs.length:=(SF.mp hi).1;have Lk:xs.length<=N:=by rw[h1,<-hN];exact tT h3
  refine cu (gn s (h4 s (To hi))) λcs gs=>?_;have vW:eI P (start P) (i+1)=xs++br P s:=by rw[h1]at hi⊢;exact BH hi
  have G9:wholeOf P ((xs++br P s).take (i+1))=wholeOf P (xs.take i)++outs P s:=by (refine Eq.substr (Sq (by assumption)) ?_;refine Eq.substr Ug ?_;refine Eq.substr hi ?_);simp[wholeOf]
  have iJ:∀(t6 t7 t8 t9 L2 L1 L0 LZ LY LX LW LV LU:Slot),(λ(j:Nat) (ρ:RE)=>∃B5,B5=eI P (start P) j/\j<=B5.length/\j<=N/\(∀s∈B5,Good s)/\∃s6 s7 s8 s9 kB rU m6 kA E8 B8 B7 B6 yF,ρ=[.val (aa P.names),.val (aY P.rules),.val (gj P.sp),.val (aa P.picks),.own ls (.list (B5.map jf)),.own lw (.list ((wholeOf P (B5.take j)).map outD)),s6,s7,s8,s9,kB,rU,m6,kA,E8,B8,B7,B6,yF]) (i+1)
   [.val (aa P.names),.val (aY P.rules),.val (gj P.sp),.val (aa P.picks),.own ls (.list (xs.map jf++(br P s).map jf)),.own lw (.list ((wholeOf P (xs.take i)).map outD++(outs P s).map outD)),t6,t7,t8,t9,L2,L1,L0,LZ,LY,LX,LW,LV,LU]:=λt6 t7 t8 t9 L2 L1 L0 LZ LY LX LW LV LU=>by
   refine Bl (xs++br P s) vW.symm (by simp;exact le_add_right_of_le cB) (by exact Vz ‹_› ‹_›) (λt ht=>?_) t6 (ic t7 t8 t9 L2 L1 L0 (ic LZ LY LX LW LV LU ?_))
   .rcases UU.mp ht with q|q
    .exact h4 t q
    exact gs t q
   (refine Eq.substr G9 ?_;refine Eq.substr UT ?_;refine Eq.substr UT ?_;rfl)
  have Qf:(wholeOf P (xs.take i)).length<=100000:=by have:=xx P (xs.take i);simp only[UC]at this;exact(A4 [.e Va (.c 100000),.e Vb Va,.e Vc (.i Vd Vb)] (.e Vc (.c 100000))) BZ Lk this
  generalize wholeOf P (xs.take i)=os at iJ Qf⊢;have e9:=Pu cs.within;have HH:(stackOf s).length<=100:=by rw[mf];have:=cs.within;exact TV ‹_› (by decide)
  refine Go.assign C (d:=aa (stackOf s)) (by z_go) (Ew.dq C (let bD:=bp s.within;((True/\True)/\1<=sizeLine)/\((True/\bB bD)/\(∀u1∈(aN bD),True/\True/\(true=true->(True/\True/\ax u1 (D.int 0))))/\length (map (λu2=>(idx u2 (D.int 0))) (aN bD))<=sizeLine)/\bf .Add (D.list [(D.int 0)]) (D.list (map (λu3=>(idx u3 (D.int 0))) (aN bD)))) (ae .Add (D.list [(D.int 0)]) (D.list (map (λu4=>(idx u4 (D.int 0))) (aN (bp s.within))))) ?_ ?_) (by z_go) ?_
  .repeat' (first|with_reducible exact True.intro|with_reducible refine And.intro ?_ ?_|(exact VC _)|(with_reducible exact il))
   .exact trivial
   .refine aq (xs:=s.within) (enc:=yC) λw hw=>?_;exact⟨Wa,Wa,λ_=>⟨Wa,Wa,vT w (by decide) (by decide)⟩⟩
   .refine(?_:((s.within.map yC).map _).length<=sizeLine);have:=cs.within;simp[sizeLine];exact Vz ‹_› (by exact Tc rfl)
   refine(?_:1+((s.within.map yC).map _).length<=sizeLine);have:=cs.within;simp[sizeLine];exact(A1 [.e Va (.c 60)] (.e (.a K1 Va) kF)) this
  .refine(?_:D.list ([D.int 0]++(s.within.map yC).map _)=_);rw[VA];delta stackOf aa;rw[Vt,VA];rfl
  refine Go.ite (c:=decide (s.pile=[])) (Tw.dq C (True/\(True/\0<=sizeLine)/\aV .Eq (aa s.pile) (D.list [])) (ag .Eq (aa s.pile) (D.list [])) ?_ ?_) (λh=>?_) λh=>?_
  .walk_at "z"
   refine⟨bC _,rfl,?_⟩;refine(?_:b5 _+1<=20);rw[eF];exact VC _
  .exact wH _
  . -- a run has ended
   have Fj:br P s=[]:=by delta br;rw[show s.pile=[] by simpa using h]
   have Mn:outs P s=[mG P s]:=by delta outs;rw[if_pos (by simpa using h)]
   rw[Fj,Mn]at iJ;refine Go.eV C (d:=gq (iN P.names s.book)) (by z_go) (bw.dq C ((True/\bB (aa P.names))/\(∀u1∈(aN (aa P.names)),True/\(True/\True/\aV .In u1 (d0 s.book))/\((ag .In u1 (d0 s.book))=true->((True/\(((True/\True/\ax (d0 s.book) u1)/\True/\True/\nH (idx (d0 s.book) u1) none (some (D.int 4)))/\((((True/\True/\ax (d0 s.book) u1)/\True/\ax (idx (d0 s.book) u1) (D.int 4))/\k8 (idx (idx (d0 s.book) u1) (D.int 4)))/\True)))/\3<=sizeLine)))/\length (map (λu2=>(D.tup [u2,(j6 (idx (d0 s.book) u2) none (some (D.int 4))),(itemsOf (idx (idx (d0 s.book) u2) (D.int 4)))])) (filter (λu2=>(ag .In u2 (d0 s.book))) (aN (aa P.names))))<=sizeLine) (D.list (map (λu3=>(D.tup [u3,(j6 (idx (d0 s.book) u3) none (some (D.int 4))),(itemsOf (idx (idx (d0 s.book) u3) (D.int 4)))])) (filter (λu3=>(ag .In u3 (d0 s.book))) (aN (aa P.names))))) ?_ ?_) (by z_go) ?_
   .refine⟨⟨Wa,Wa⟩,aq (xs:=P.names) (enc:=D.int) λnm Mr=>?_,?_⟩
    .rw[Et];refine⟨Wa,⟨Wa,Wa,Wa⟩,λBX=>?_⟩;refine Eq.substr ((gI BX).1) ?_
     walk_at "c"
     .exact(gI BX).2
     .exact⟨by decide,by show(4:Int)<5;decide,by show 5<=sizeLine;decide⟩
     .exact(gI BX).2
     .exact zL _ (by decide) (by decide)
     refine(?_:((f7 s.book nm).cl.map cE).length<=sizeLine);have:=rz cs.cls nm;simp[sizeLine];exact Vz ‹_› (by decide)
    rw[US];refine Vz (Td _ _) ?_;refine(?_:(P.names.map D.int).length<=sizeLine);have:=cp.names;simp[sizeLine];exact Vz ‹_› (by decide)
   .refine(V4 D.list ((V4 _ (bX (p:=λnm=>(look s.book nm).isSome) λnm Mr=>Et _ _)).trans (b7 (g:=λnm=>B1 ⟨nm,(f7 s.book nm).cc,(f7 s.book nm).nc,(f7 s.book nm).tt,(f7 s.book nm).ct,(f7 s.book nm).cl⟩) λnm Mr=>?_))).trans ?_
    .have BX:=(UW.mp Mr).2;(refine Eq.substr ((gI BX).1) ?_;simp only[Rr];rw[NO]);rfl
    delta iN gq;rw[VA];rfl
   have Cd:Cf G (n+3) (uS s.log (gr P.paired P.names (fB s.log) s.told) [aa P.names,bG (fB s.log),cm s.told,.bool P.paired]) mL.scope nI:=⟨by z_go,fh W λf ds hf yK=>by
    by_cases hs:(f==S "sorted")=true
    .have:f=S "sorted":=by simpa using hs
     rw[if_pos hs]at yK⊢;subst this yK;exact .bi W.sorted (x6 (by have:=cs.log;exact TV ‹_› (by decide)) cs.Ng)
    .have:f=S "_law_due":=by rw[U0]at hf;exact VX.mp (hf.resolve_left hs)
     rw[if_neg hs]at yK⊢;subst this yK;exact .fn (Hl W P.paired P.names (fB s.log) s.told (λo ho=>cs.Ka o ((gz _).mem_iff.mp ho)) (by rw[xF];have:=cs.log;exact Vz ‹_› (by decide)) cs.told (by have:=cp.names;exact Vz ‹_› (by decide)))⟩
   refine Go.append (l:=lw) (ds:=os.map outD) (d:=outD (mG P s)) rfl (by z_go) (by z_go) (by z_go) (Ew.dq Cd (let bD:=uS s.log (gr P.paired P.names (fB s.log) s.told) [aa P.names,bG (fB s.log),cm s.told,.bool P.paired];let ee:=cm s.told;let iY:=aa P.picks;((True/\(((True/\bB ee)/\(∀u2∈(aN ee),i5 u2 2/\True/\(true=true->(True/\True/\ax (gj P.sp) (headD (aF u2) D.none))))/\length (map (λu3=>(idx (gj P.sp) (headD (aF u3) D.none))) (aN ee))<=sizeLine)/\True)/\bD.eS (S "join") (D.str ⟨#[]⟩) [(D.list (map (λu1=>(idx (gj P.sp) (headD (aF u1) D.none))) (aN ee)))])/\(True/\(((True/\(((True/\True)/\bD.bJ (S "sorted") [(bG s.log)])/\(True/\((True/\(True/\0<=sizeLine)/\aV .NotEq iY (D.list []))/\True))))/\bD.bJ (S "_law_due") [(aa P.names),(bD.call (S "sorted") [(bG s.log)]),ee,(D.bool (ag .NotEq iY (D.list [])))])/\True)))/\3<=sizeLine) (let bD:=uS s.log (gr P.paired P.names (fB s.log) s.told) [aa P.names,bG (fB s.log),cm s.told,.bool P.paired];D.tup [(bD.cZ (S "join") (D.str ⟨#[]⟩) [(D.list (map (λu1=>(idx (gj P.sp) (headD (aF u1) D.none))) (aN (cm s.told))))]),(gq (iN P.names s.book)),(bD.call (S "_law_due") [(aa P.names),(bD.call (S "sorted") [(bG s.log)]),(cm s.told),(D.bool (ag .NotEq (aa P.picks) (D.list [])))])]) ?_ ?_) (by simp[sizeLine];exact Vz ‹_› (by decide)) (by z_go) (Go.nil (du.nil (Go.nil ?_)))
   .walk_at "b"
    .exact trivial
    .refine aq (xs:=s.told) (enc:=λp=>.tup [.int p.1,.int p.2]) λp hp=>?_;exact⟨rfl,Wa,λ_=>⟨Wa,Wa,(lh (cs.rB p hp)).2⟩⟩
    .refine(?_:((s.told.map _).map _).length<=sizeLine);have:=cs.told;simp[sizeLine];exact Vz ‹_› (by decide)
    .rw[qh cs.rB];refine⟨rfl,?_,?_⟩
     .intro d hd;obtain⟨c,_,rfl⟩:=VB.mp hd;exact⟨_,rfl⟩
     have e:((((textOf P.sp s.told).map λc=>D.str (one c)).map toS).map (·.length)).sum=s.told.length:=by
      rw[VA,VA];have:∀l:List Nat,(l.map ((λ(x:Str)=>x.length)∘toS∘λc=>D.str (one c))).sum=l.length:=λl=>by
       induction l with
       |nil=>rfl
       |cons c l ih=>simp only[Vt,Vv,ih,Ux];refine(?_:1+l.length=_);exact Nat.add_comm _ _
      exact(this _).trans (by exact US ..)
     rw[e];have:=cs.told;exact Vz ‹_› (by decide)
    .exact rfl
    .refine⟨bC _,rfl,?_⟩;refine(?_:b5 _+1<=20);rw[eF];exact VC _
    refine(?_:[_,bG (fB s.log),_,_]=_);rw[lD]
   .rw[qh cs.rB];refine(?_:D.tup [D.str (Txt.join ⟨#[]⟩ (((textOf P.sp s.told).map λc=>D.str (one c)).map toS)),_,_]=_);rw[GX];rfl
   have:=iJ (.val (aa s.pile)) (.val (bp s.within)) (.val (cm s.told)) (.val (d0 s.book)) (.val (bG s.log)) (.val (aa (stackOf s))) (.val (gq (iN P.names s.book))) kA E8 B8 B7 B6 yF;rw[VG,UX]at this;exact this
  -- a sign,a call or RW end
  have OA:s.pile≠[]:=by simpa using h
  obtain⟨x,pl,cf⟩:∃x pl,s.pile=x::pl:=by induction e:s.pile using List.casesOn with|nil=>exact absurd e OA|cons x pl=>exact pA x pl rfl
  have Mn:outs P s=[]:=by delta outs;rw[if_neg OA]
  rw[Mn,VG,UX]at iJ;have rV:=gv (xs:=s.pile) (enc:=D.int) (i:=0) (j:=0) (x:=x) rfl (by rw[cf];rfl) (by have:=cs.pile;exact TV ‹_› (by decide));have gP:idx (aa s.pile) (D.int 0)=.int x:=rV.2;have Lo:j6 (aa s.pile) (some (D.int 1)) none=aa (s.pile.drop 1):=by refine(?_:D.list (cut (s.pile.map D.int) (some ((1:Nat):Int)) none)=_);rw[BE,<-map_drop];rfl
  have FU:nH (aa s.pile) (some (D.int 1)) none:=⟨by have:=cs.pile;simp[sizeLine];exact Vz ‹_› (by decide),Wa,Wa⟩;have Ci:Cf G (n+3) dt mL.scope nI:=⟨by z_go,wB W⟩;have RH:∀i:Int,isOk [.int i]:=λ_=>trivial;refine Go.ite (c:=decide (x=0)) (Tw.dq Ci ((((True/\True/\ax (aa s.pile) (D.int 0))/\True)/\dt.bJ (S "ISEOF") [(idx (aa s.pile) (D.int 0))])/\pn (dt.call (S "ISEOF") [(idx (aa s.pile) (D.int 0))])) (tr (dt.call (S "ISEOF") [(idx (aa s.pile) (D.int 0))])) ?_ ?_) (λh0=>?_) λh0=>?_
  .rw[gP]
   walk_at "c"
   .exact rV.1
   .exact trivial
   exact trivial
  .rw[gP];rfl
  .have HE:x=0:=by simpa using h0
   have Fj:br P s=[de s]:=by delta br;rw[cf];dsimp only;rw[if_pos HE]
   have Qg:s.within≠[]:=cs.eof pl (by rw[cf,HE]);have vN:=JN cs.within Qg;refine Go.assign C (d:=.int (cg s)) (by z_go) (Ew.dq C (((True/\((True/\(True/\dz (D.int 1))/\ax (aa (stackOf s)) (a9 (D.int 1)))/\True)/\fA.eS (S "count") (aa (stackOf s)) [(idx (aa (stackOf s)) (a9 (D.int 1)))])/\True/\aV .Eq (fA.cZ (S "count") (aa (stackOf s)) [(idx (aa (stackOf s)) (a9 (D.int 1)))]) (D.int 1))/\((ag .Eq (fA.cZ (S "count") (aa (stackOf s)) [(idx (aa (stackOf s)) (a9 (D.int 1)))]) (D.int 1))=true->(((True/\True)/\1=1/\dO (cm s.told))/\((True/\(True/\dz (D.int 1))/\ax (bp s.within) (a9 (D.int 1)))/\True/\ax (idx (bp s.within) (a9 (D.int 1))) (D.int 1))/\bf .Sub (bh (cm s.told)) (idx (idx (bp s.within) (a9 (D.int 1))) (D.int 1))))/\((ag .Eq (fA.cZ (S "count") (aa (stackOf s)) [(idx (aa (stackOf s)) (a9 (D.int 1)))]) (D.int 1))=false->True)) (if(ag .Eq (fA.cZ (S "count") (aa (stackOf s)) [(idx (aa (stackOf s)) (a9 (D.int 1)))]) (D.int 1))=true then(ae .Sub (bh (cm s.told)) (idx (idx (bp s.within) (a9 (D.int 1))) (D.int 1)))else(D.int 0)) ?_ ?_) (by z_go) ?_
   ·(refine Eq.substr e9.2 ?_;rw[fj])
    walk_at "c"
    .exact e9.1
    .exact lF _ _
    .exact trivial
    .intro _;rw[yV,vN.2]
     walk_at "r"
     .refine(?_:(s.told.map _).length<2^62);have:=cs.told;simp;exact TV ‹_› (by decide)
     .exact vN.1
     .exact vT _ (by decide) (by decide)
     exact trivial
    exact λ_=>trivial
   ·(refine Eq.substr e9.2 ?_;rw[fj,yV];refine Eq.substr vN.2 ?_);delta cg;by_cases hc:(stackOf s).count (aW s)=1
    .rw[if_pos hc,if_pos (show ag .Eq (D.int ((stackOf s).count (aW s):Nat)) (D.int 1)=true by rw[hc];rfl)];rfl
    rw[if_neg hc,if_neg (show¬ag .Eq (D.int ((stackOf s).count (aW s):Nat)) (D.int 1)=true from λq=>hc (by have:decide (((stackOf s).count (aW s):Int)=1)=true:=q;simp at this;exact(A1 [.Q bA K1] (.q Va K1)) this))]
   have Cn:Cf G (n+3) (dg (S "_law_noted") (λ_=>d0 (bo s.book (aW s) ⟨0,0,0,cg s,[]⟩)) (λds=>ds=[d0 s.book,.int (aW s),gC ⟨0,0,0,cg s,[]⟩])) mL.scope nI:=⟨by z_go,er W λds h=>h▸ .fn (oJ W hC cs.kind (λkv q=>by exact pL q) cs.book (by have:=rz cs.cls (aW s);simp;exact Vz ‹_› (by decide)))⟩;refine Go.assign Cn (d:=d0 (bo s.book (aW s) ⟨0,0,0,cg s,[]⟩)) (by z_go) (Ew.dq Cn ((True/\((True/\(True/\dz (D.int 1))/\ax (aa (stackOf s)) (a9 (D.int 1)))/\(((True/\(True/\(True/\(True/\((True/\Nodup ([]:List Int))/\True)))))/\5<=sizeLine)/\True)))/\(dg (S "_law_noted") (λ_=>d0 (bo s.book (aW s) ⟨0,0,0,cg s,[]⟩)) (λds=>ds=[d0 s.book,.int (aW s),gC ⟨0,0,0,cg s,[]⟩])).bJ (S "_law_noted") [(d0 s.book),(idx (aa (stackOf s)) (a9 (D.int 1))),(D.tup [(D.int 0),(D.int 0),(D.int 0),(.int (cg s)),(D.aG [])])]) ((dg (S "_law_noted") (λ_=>d0 (bo s.book (aW s) ⟨0,0,0,cg s,[]⟩)) (λds=>ds=[d0 s.book,.int (aW s),gC ⟨0,0,0,cg s,[]⟩])).call (S "_law_noted") [(d0 s.book),(idx (aa (stackOf s)) (a9 (D.int 1))),(D.tup [(D.int 0),(D.int 0),(D.int 0),(.int (cg s)),(D.aG [])])]) ?_ ?_) (by z_go) ?_
   .rw[e9.2]
    walk_at "c"
    .exact e9.1
    exact rfl
   .rfl
   have Qh:j6 (bp s.within) none (some (a9 (D.int 1)))=bp s.within.dropLast:=by refine(?_:D.list (cut (s.within.map yC) none (some (-((1:Nat):Int))))=_);rw[BD,<-map_dropLast];rfl
   refine Go.append (l:=ls) (ds:=xs.map jf) (d:=jf (de s)) rfl (by z_go) (by z_go) (by z_go) (Ew.dq C (let bD:=idx (bp s.within) (a9 (D.int 1));let ee:=True/\(True/\dz (D.int 1))/\ax (bp s.within) (a9 (D.int 1));((True/\True/\True/\nH (aa s.pile) (some (D.int 1)) none)/\((True/\True/\(True/\dz (D.int 1))/\nH (bp s.within) none (some (a9 (D.int 1))))/\(True/\(True/\((True/\(((((ee/\True/\ax bD (D.int 2))/\(True/\((ee/\True/\ax bD (D.int 1))/\(((True/\True)/\1=1/\dO (cm s.told))/\True))))/\4<=sizeLine)/\True)/\1<=sizeLine)/\bf .Add (bG s.log) (D.list [(D.tup [(idx bD (D.int 2)),(aa (stackOf s)),(idx bD (D.int 1)),(bh (cm s.told))])]))/\True)))))/\5<=sizeLine) (let bD:=idx (bp s.within) (a9 (D.int 1));D.tup [(j6 (aa s.pile) (some (D.int 1)) none),(j6 (bp s.within) none (some (a9 (D.int 1)))),(cm s.told),(d0 (bo s.book (aW s) ⟨0,0,0,cg s,[]⟩)),(ae .Add (bG s.log) (D.list [(D.tup [(idx bD (D.int 2)),(aa (stackOf s)),(idx bD (D.int 1)),(bh (cm s.told))])]))]) ?_ ?_) (by simp[sizeLine];exact(A2 [.e Va (.c 100000),.e Vb Va] (.e Vb kF)) BZ Lk) (by z_go) (Go.nil (du.nil (Go.nil (du.nil (Go.nil ?_)))))
   .refine Eq.substr vN.2 ?_
    walk_at "c"
    .exact FU
    .exact⟨by have:=cs.within;simp[sizeLine];exact Vz ‹_› (by decide),Wa,Wa⟩
    .exact vN.1
    .exact vT _ (by decide) (by decide)
    .exact vN.1
    .exact vT _ (by decide) (by decide)
    .refine(?_:(s.told.map _).length<2^62);have:=cs.told;simp;exact TV ‹_› (by decide)
    refine(?_:(s.log.map jb).length+1<=sizeLine);have:=cs.log;simp[sizeLine];exact Vz ‹_› (by decide)
   ·(refine Eq.substr vN.2 ?_;refine Eq.substr Lo ?_;refine Eq.substr Qh ?_;rw[yV]);refine(?_:D.tup [_,_,_,_,D.list (s.log.map jb++[_])]=D.tup [_,_,_,_,D.list ((s.log++[_]).map jb)]);rw[UT];rfl
   have:=iJ (.val (aa s.pile)) (.val (bp s.within)) (.val (cm s.told)) (.val (d0 s.book)) (.val (bG s.log)) (.val (aa (stackOf s))) m6 (.val (.int (cg s))) (.val (d0 (bo s.book (aW s) ⟨0,0,0,cg s,[]⟩))) B8 B7 B6 yF;rw[Fj]at this;exact this
  have HE:x≠0:=by simpa using h0
  refine Go.ite (c:=decide (x<256)) (Tw.dq Ci ((((True/\True/\ax (aa s.pile) (D.int 0))/\True)/\dt.bJ (S "ISTERMINAL") [(idx (aa s.pile) (D.int 0))])/\pn (dt.call (S "ISTERMINAL") [(idx (aa s.pile) (D.int 0))])) (tr (dt.call (S "ISTERMINAL") [(idx (aa s.pile) (D.int 0))])) ?_ ?_) (λht=>?_) λht=>?_
  .rw[gP]
   walk_at "c"
   .exact rV.1
   .exact trivial
   exact trivial
  .rw[gP];rfl
  .have Lj:x<256:=by simpa using ht
   have Fj:br P s=[cX s x]:=by delta br;rw[cf];dsimp only;(refine V3 (if_neg HE) ?_;exact(if_pos Lj))
   have Cn:Cf G (n+3) (dg (S "_law_noted") (λ_=>d0 (bo s.book (aW s) ⟨0,0,1,0,[]⟩)) (λds=>ds=[d0 s.book,.int (aW s),gC ⟨0,0,1,0,[]⟩])) mL.scope nI:=⟨by z_go,er W λds h=>h▸ .fn (oJ W hC cs.kind (λkv q=>by exact pL q) cs.book (by have:=rz cs.cls (aW s);simp;exact Vz ‹_› (by decide)))⟩;refine Go.assign Cn (d:=d0 (bo s.book (aW s) ⟨0,0,1,0,[]⟩)) (by z_go) (Ew.dq Cn ((True/\((True/\(True/\dz (D.int 1))/\ax (aa (stackOf s)) (a9 (D.int 1)))/\(((True/\(True/\(True/\(True/\((True/\Nodup ([]:List Int))/\True)))))/\5<=sizeLine)/\True)))/\(dg (S "_law_noted") (λ_=>d0 (bo s.book (aW s) ⟨0,0,1,0,[]⟩)) (λds=>ds=[d0 s.book,.int (aW s),gC ⟨0,0,1,0,[]⟩])).bJ (S "_law_noted") [(d0 s.book),(idx (aa (stackOf s)) (a9 (D.int 1))),(D.tup [(D.int 0),(D.int 0),(D.int 1),(D.int 0),(D.aG [])])]) ((dg (S "_law_noted") (λ_=>d0 (bo s.book (aW s) ⟨0,0,1,0,[]⟩)) (λds=>ds=[d0 s.book,.int (aW s),gC ⟨0,0,1,0,[]⟩])).call (S "_law_noted") [(d0 s.book),(idx (aa (stackOf s)) (a9 (D.int 1))),(D.tup [(D.int 0),(D.int 0),(D.int 1),(D.int 0),(D.aG [])])]) ?_ ?_) (by z_go) ?_
   .rw[e9.2]
    walk_at "c"
    .exact e9.1
    exact rfl
   .rfl
   refine Go.append (l:=ls) (ds:=xs.map jf) (d:=jf (cX s x)) rfl (by z_go) (by z_go) (by z_go) (Ew.dq C (((True/\True/\True/\nH (aa s.pile) (some (D.int 1)) none)/\(True/\((True/\(((((True/\True/\ax (aa s.pile) (D.int 0))/\((True/\(True/\dz (D.int 1))/\ax (aa (stackOf s)) (a9 (D.int 1)))/\True))/\2<=sizeLine)/\True)/\1<=sizeLine)/\bf .Add (cm s.told) (D.list [(D.tup [(idx (aa s.pile) (D.int 0)),(idx (aa (stackOf s)) (a9 (D.int 1)))])]))/\(True/\(True/\True)))))/\5<=sizeLine) (D.tup [(j6 (aa s.pile) (some (D.int 1)) none),(bp s.within),(ae .Add (cm s.told) (D.list [(D.tup [(idx (aa s.pile) (D.int 0)),(idx (aa (stackOf s)) (a9 (D.int 1)))])])),(d0 (bo s.book (aW s) ⟨0,0,1,0,[]⟩)),(bG s.log)]) ?_ ?_) (by simp[sizeLine];exact(A2 [.e Va (.c 100000),.e Vb Va] (.e Vb kF)) BZ Lk) (by z_go) (Go.nil (du.nil (Go.nil (du.nil (Go.nil (du.nil (Go.nil ?_)))))))
   ·(refine Eq.substr gP ?_;refine Eq.substr e9.2 ?_)
    walk_at "b"
    .exact FU
    .exact rV.1
    .exact e9.1
    refine(?_:(s.told.map _).length+1<=sizeLine);have:=cs.told;simp[sizeLine];exact Vz ‹_› (by decide)
   ·(refine Eq.substr gP ?_;refine Eq.substr Lo ?_;refine Eq.substr e9.2 ?_);refine(?_:D.tup [_,_,D.list (s.told.map _++[_]),_,_]=D.tup [_,_,D.list ((s.told++[_]).map _),_,_]);rw[UT];rfl
   have:=iJ (.val (aa s.pile)) (.val (bp s.within)) (.val (cm s.told)) (.val (d0 s.book)) (.val (bG s.log)) (.val (aa (stackOf s))) m6 kA (.val (d0 (bo s.book (aW s) ⟨0,0,1,0,[]⟩))) B8 B7 B6 yF;rw[Fj]at this;exact this
  have Lj:¬x<256:=by simpa using ht
  have Fj:br P s=(bV P s x).map (cq P s x):=by delta br;rw[cf];dsimp only;(refine V3 (if_neg HE) ?_;exact(if_neg Lj))
  refine Go.ite (c:=decide (256<=x)) (Tw.dq Ci (let bD:=idx (aa s.pile) (D.int 0);let ee:=S "ISNONTERMINAL";(((True/\True/\ax (aa s.pile) (D.int 0))/\True)/\dt.bJ ee [bD])/\pn (dt.call ee [bD])) (tr (dt.call (S "ISNONTERMINAL") [(idx (aa s.pile) (D.int 0))])) ?_ ?_) (λhq=>?_) λhq=>?_
  .rw[gP]
   walk_at "c"
   .exact rV.1
   .exact trivial
   exact trivial
  .rw[gP];rfl
  .
   refine Go.ny C (bL:=.int (cA s x)) (cN:=.int (callsOf s)) (by z_go) (by z_go) (Lw.cons (by z_go) (Ew.dq C (let bD:=ag .In (idx (aa s.pile) (D.int 0)) (aa (stackOf s));((True/\True/\ax (aa s.pile) (D.int 0))/\True/\aV .In (idx (aa s.pile) (D.int 0)) (aa (stackOf s)))/\(bD=true->True)/\(bD=false->True)) (if(ag .In (idx (aa s.pile) (D.int 0)) (aa (stackOf s)))=true then(D.int 0)else(D.int 1)) ?_ ?_) (Lw.cons (by z_go) (Ew.dq C (((True/\True)/\1=1/\dO (bG s.log))/\((True/\True)/\1=1/\dO (bp s.within))/\bf .Add (bh (bG s.log)) (bh (bp s.within))) (ae .Add (bh (bG s.log)) (bh (bp s.within))) ?_ ?_) Lw.nil)) (by z_go) (by z_go) ?_
   .rw[gP,lj]
    walk_at "c"
    .exact rV.1
    .exact⟨rfl,bC _,VO _⟩
    .exact λ_=>trivial
    exact λ_=>trivial
   .rw[gP,lj];delta cA;by_cases hm:x∈stackOf s
    .rw[if_pos hm,if_pos (by exact Vk ‹_›)]
    rw[if_neg hm,if_neg (by simpa using hm)]
   .rw[IW,CL]
    walk_at "r"
    .refine(?_:(s.log.map _).length<2^62);have:=cs.log;simp;exact TV ‹_› (by decide)
    .refine(?_:(s.within.map _).length<2^62);have:=cs.within;simp;exact TV ‹_› (by decide)
    exact trivial
   .rw[IW,CL];rfl
   have HN:D.tup [D.int (cA s x),D.int 1,D.int 0,D.int 0,D.aG [(je (D.int (aW s)),if P.paired=true then D.tup [D.int 1,D.int (cA s x)]else ae .Add (D.int 1) (D.int (cA s x)))]]=gC (ed P s x):=by
    delta ed gC j8
    cases P.paired<;>rfl
   have Ik:Cs.kind P.paired (ed P s x).cl:=λkv yv=>by
    have:kv=(aW s,if P.paired=true then Cv.p 1 (cA s x)else Cv.n (1+cA s x)):=by simpa[ed]using yv
    rw[this]
    cases P.paired<;>rfl
   have Cn:Cf G (n+3) (dg (S "_law_noted") (λ_=>d0 (bU P s x)) (λds=>ds=[d0 s.book,.int x,gC (ed P s x)])) mL.scope nI:=⟨by z_go,er W λds h=>h▸ .fn (oJ W hC cs.kind Ik cs.book (by have:=rz cs.cls x;simp[ed];exact Vz ‹_› (by decide)))⟩;refine Go.assign Cn (d:=d0 (bU P s x)) (by z_go) (Ew.dq Cn (let bD:=idx (aa (stackOf s)) (a9 (D.int 1));let ee:=ag .NotEq (aa P.picks) (D.list []);let iY:=.int (cA s x);let pf:=S "_law_noted";(True/\((True/\True/\ax (aa s.pile) (D.int 0))/\(((True/\(True/\(True/\(True/\((((True/\(True/\dz (D.int 1))/\ax (aa (stackOf s)) (a9 (D.int 1)))/\dz bD/\((True/\(True/\0<=sizeLine)/\aV .NotEq (aa P.picks) (D.list []))/\(ee=true->((True/\(True/\True))/\2<=sizeLine))/\(ee=false->(True/\True/\bf .Add (D.int 1) iY)))/\True)/\Nodup ([je bD]:List Int))/\True)))))/\5<=sizeLine)/\True)))/\(dg pf (λ_=>d0 (bU P s x)) (λds=>ds=[d0 s.book,.int x,gC (ed P s x)])).bJ pf [(d0 s.book),(idx (aa s.pile) (D.int 0)),(D.tup [iY,(D.int 1),(D.int 0),(D.int 0),(D.aG [(je bD,(if ee=true then(D.tup [(D.int 1),iY])else(ae .Add (D.int 1) iY)))])])]) (let bD:=.int (cA s x);let ee:=S "_law_noted";(dg ee (λ_=>d0 (bU P s x)) (λds=>ds=[d0 s.book,.int x,gC (ed P s x)])).call ee [(d0 s.book),(idx (aa s.pile) (D.int 0)),(D.tup [bD,(D.int 1),(D.int 0),(D.int 0),(D.aG [(je (idx (aa (stackOf s)) (a9 (D.int 1))),(if(ag .NotEq (aa P.picks) (D.list []))=true then(D.tup [(D.int 1),bD])else(ae .Add (D.int 1) bD)))])])]) ?_ ?_) (by z_go) ?_
   ·(refine Eq.substr gP ?_;refine Eq.substr e9.2 ?_;rw[lD])
    walk_at "b"
    .exact rV.1
    .exact e9.1
    .refine⟨bC _,rfl,?_⟩;refine(?_:b5 _+1<=20);rw[eF];exact VC _
    .exact λ_=>⟨⟨Wa,Wa,Wa⟩,by decide⟩
    .exact λ_=>⟨Wa,Wa,Wa⟩
    .exact UZ.mpr ⟨by simp,nodup_nil⟩
    refine(?_:[_,_,_]=_);rw[HN]
   ·(refine Eq.substr gP ?_;refine Eq.substr e9.2 ?_;rw[lD]);rfl
   refine Go.eV C (d:=el (aL P x)) (by z_go) (bw.dq C (let bD:=idx (aa s.pile) (D.int 0);let ee:=aY P.rules;(True/\bB ee)/\(∀u1∈(aN ee),i5 u1 2/\(True/\(True/\True/\ax (aa s.pile) (D.int 0))/\aV .Eq (headD (aF u1) D.none) bD)/\((ag .Eq (headD (aF u1) D.none) bD)=true->True))/\length (map (λu2=>(headD (tail (aF u2)) D.none)) (filter (λu2=>(ag .Eq (headD (aF u2) D.none) bD)) (aN ee)))<=sizeLine) (D.list (map (λu3=>(headD (tail (aF u3)) D.none)) (filter (λu3=>(ag .Eq (headD (aF u3) D.none) (idx (aa s.pile) (D.int 0)))) (aN (aY P.rules))))) ?_ ?_) (by z_go) ?_
   .refine Eq.substr gP ?_
    walk_at "c"
    .exact trivial
    .refine aq (xs:=P.rules) (enc:=eN) λr hr=>?_;exact⟨rfl,⟨Wa,⟨Wa,Wa,rV.1⟩,Wa⟩,λ_=>trivial⟩
    rw[US];refine Vz (Td _ _) ?_;refine(?_:(P.rules.map eN).length<=sizeLine);have:=cp.rules;simp[sizeLine];exact Vz ‹_› (by decide)
   .rw[gP];refine(V4 D.list ((V4 _ (bX (enc:=eN) (xs:=P.rules) (p:=λr=>decide (r.1=x)) λr hr=>rfl)).trans (b7 (enc:=eN) (g:=λr=>aa r.2) λr hr=>rfl))).trans ?_;delta aL el;rw[VA];rfl
   have FV:idx (aa P.names) (D.int 0)=.int P.n0:=HI.2;have p9:(look (bU P s x) x).isSome=true:=by delta bU;rw[vt];rfl
   have Oz:(if ag .Lt (D.int (callsOf s)) (D.int (P.picks.length:Nat))=true then idx (aa P.picks) (D.int (callsOf s))else if ag .Eq (D.int x) (D.int P.n0)=true then D.int 0 else D.int 1)=.int (pickOf P s x):=by
    delta pickOf;by_cases hc:callsOf s<P.picks.length
    ·(refine Eq.substr (if_pos hc) ?_;refine V3 (if_pos (show ag .Lt (D.int (callsOf s)) (D.int (P.picks.length:Nat))=true from Vk (by exact VN.mpr ‹_›))) ?_;exact((sG P.picks hc (by have:=cp.picks;exact Vz ‹_› (by decide))).2))
    rw[if_neg hc,if_neg (show¬ag .Lt (D.int (callsOf s)) (D.int (P.picks.length:Nat))=true from λq=>hc (by have q':decide ((callsOf s:Int)<(P.picks.length:Nat))=true:=q;simpa using q'))];by_cases he:x=P.n0
    .rw[if_pos he,if_pos (show ag .Eq (D.int x) (D.int P.n0)=true from Vk he)]
    rw[if_neg he,if_neg (show¬ag .Eq (D.int x) (D.int P.n0)=true from λq=>he (of_decide_eq_true q))]
   have EH:P.paired=true->ax (el (aL P x)) (.int (pickOf P s x))/\idx (el (aL P x)) (.int (pickOf P s x))=aa ((aL P x).getD (pickOf P s x).toNat []):=λBU=>by
    refine cu (cs.pick x pl cf (by exact V0.mp ‹_›) BU) λg1 g2=>?_;have h1:(aL P x).length<=100:=by delta aL;rw[US];exact Vz (Td _ _) cp.rules
    have CS:(pickOf P s x).toNat<(aL P x).length:=by exact(ar 2 3 [_,_] [_] [.E K0 Qa,.L Qa bA,.i vP (.Q ew Qa)] (.l Vb Va)) g1 g2 TJ
    have:=gv (xs:=aL P x) (enc:=aa) (i:=pickOf P s x) (j:=(pickOf P s x).toNat) (by exact(TJ ‹_›).symm) (SK CS) (by exact TV ‹_› (by decide));rw[Su,SK CS];exact this
   refine Go.cut [.val (aa P.names),.val (aY P.rules),.val (gj P.sp),.val (aa P.picks),.own ls (.list (xs.map jf)),.own lw (.list (os.map outD)),.val (aa s.pile),.val (bp s.within),.val (cm s.told),.val (d0 s.book),.val (bG s.log),.val (aa (stackOf s)),m6,kA,.val (d0 (bU P s x)),.val (.int (cA s x)),.val (.int (callsOf s)),.val (el (bV P s x)),yF] ?_ ?_
   .refine Sw.ite (c:=P.paired) (Tw.dq C (True/\(True/\0<=sizeLine)/\aV .NotEq (aa P.picks) (D.list [])) (ag .NotEq (aa P.picks) (D.list [])) ?_ ?_) (λBU=>?_) λBU=>?_
    .walk_at "z"
     refine⟨bC _,rfl,?_⟩;refine(?_:b5 _+1<=20);rw[eF];exact VC _
    .exact lD P
    .refine Go.assign C (d:=el [(aL P x).getD (pickOf P s x).toNat []]) (by z_go) (Ew.dq C (let bD:=ag .Eq (idx (aa s.pile) (D.int 0)) (idx (aa P.names) (D.int 0));let ee:=ag .Lt (.int (callsOf s)) (bh (aa P.picks));let iY:=aa P.picks;let pf:=.int (callsOf s);let yG:=aa P.names;((True/\((True/\((True/\True)/\1=1/\dO iY)/\aV .Lt pf (bh iY))/\(ee=true->(True/\True/\ax iY pf))/\(ee=false->(((True/\True/\ax (aa s.pile) (D.int 0))/\(True/\True/\ax yG (D.int 0))/\aV .Eq (idx (aa s.pile) (D.int 0)) (idx yG (D.int 0)))/\(bD=true->True)/\(bD=false->True))))/\ax (el (aL P x)) (if ee=true then(idx iY pf)else(if bD=true then(D.int 0)else(D.int 1))))/\True)/\1<=sizeLine) (D.list [(idx (el (aL P x)) (if(ag .Lt (.int (callsOf s)) (bh (aa P.picks)))=true then(idx (aa P.picks) (.int (callsOf s)))else(if(ag .Eq (idx (aa s.pile) (D.int 0)) (idx (aa P.names) (D.int 0)))=true then(D.int 0)else(D.int 1))))]) ?_ ?_) (by z_go) (Go.nil ⟨rfl,?_⟩)
     .walk_at "c"
      .refine(?_:(P.picks.map D.int).length<2^62);have:=cp.picks;simp;exact TV ‹_› (by decide)
      .rw[CM];exact trivial
      .intro hq;rw[CM]at hq;have:callsOf s<P.picks.length:=by have q:decide ((callsOf s:Int)<(P.picks.length:Nat))=true:=hq;simpa using q
       exact⟨Wa,Wa,(sG P.picks this (by have:=cp.picks;exact Vz ‹_› (by decide))).1⟩
      .intro _;(refine Eq.substr gP ?_;refine Eq.substr FV ?_);exact⟨⟨⟨Wa,Wa,rV.1⟩,⟨Wa,Wa,HI.1⟩,Wa⟩,λ_=>trivial,λ_=>trivial⟩
      (refine Eq.substr gP ?_;refine Eq.substr FV ?_;rw[CM,Oz]);exact(EH BU).1
     .simp only[gP,FV,CM,Oz,(EH BU).2];rfl
     delta bV;rw[if_pos BU];rfl
    refine Go.ite (c:=decide ((f7 (bU P s x) x).cc≠(f7 (bU P s x) x).nc\/2<s.within.length)) (Tw.dq C (let bD:=idx (d0 (bU P s x)) (idx (aa s.pile) (D.int 0));let ee:=True/\(True/\True/\ax (aa s.pile) (D.int 0))/\ax (d0 (bU P s x)) (idx (aa s.pile) (D.int 0));let iY:=bp s.within;let pf:=idx bD (D.int 0);let yG:=idx bD (D.int 1);((ee/\True/\ax bD (D.int 0))/\(ee/\True/\ax bD (D.int 1))/\aV .NotEq pf yG)/\((ag .NotEq pf yG)=false->((((True/\True)/\1=1/\dO iY)/\True/\aV .Gt (bh iY) (D.int 2))/\((ag .Gt (bh iY) (D.int 2))=false->True)))) (let bD:=idx (d0 (bU P s x)) (idx (aa s.pile) (D.int 0));(ag .NotEq (idx bD (D.int 0)) (idx bD (D.int 1)))||((ag .Gt (bh (bp s.within)) (D.int 2))||false)) ?_ ?_) (λD3=>?_) λD3=>Go.nil (du.nil (Go.nil ⟨rfl,?_⟩))
    ·(refine Eq.substr gP ?_;refine Eq.substr ((gI p9).1) ?_)
     walk_at "c"
     .exact rV.1
     .exact(gI p9).2
     .exact zL _ (by decide) (by decide)
     .exact rV.1
     .exact(gI p9).2
     .exact zL _ (by decide) (by decide)
     .exact trivial
     intro _;rw[CL];refine⟨⟨⟨⟨Wa,Wa⟩,rfl,?_⟩,Wa,Wa⟩,λ_=>trivial⟩;refine(?_:(s.within.map _).length<2^62);have:=cs.within;simp;exact TV ‹_› (by decide)
    ·(refine Eq.substr gP ?_;refine Eq.substr ((gI p9).1) ?_;rw[CL]);refine(?_:(!decide ((f7 (bU P s x) x).cc=(f7 (bU P s x) x).nc)||(decide ((2:Int)<(s.within.length:Nat))||false))=_);rw[Bool.or_false,<-decide_not,<-Bool.decide_or];exact UD.mpr (by exact(ar 1 4 [_] [_,_] [] (.b (.o (.n vQ) (.L K2 bA)) (.o (.n vQ) (.l K2 Va)))))
    .refine Go.assign C (d:=el []) (by z_go) (Ew.dq C (True/\0<=sizeLine) (D.list []) ?_ ?_) (by z_go) (Go.nil (du.nil (Go.nil ⟨rfl,?_⟩)))
     .walk_at "z"
     .rfl
     delta bV;(refine Eq.substr (if_neg (by simpa using BU)) ?_;refine Eq.substr (if_pos (by simpa using D3)) ?_);rfl
    delta bV;(refine Eq.substr (if_neg (by simpa using BU)) ?_;refine Eq.substr (if_neg (by simpa using D3)) ?_);rfl
   have Cj:(bV P s x).length<=100:=by
    have h1:(aL P x).length<=100:=by delta aL;rw[US];exact Vz (Td _ _) cp.rules
    delta bV;split
    ·exact VC _
    split
    ·simp
    exact h1
   have IA:∀r∈bV P s x,r.length<=100:=by
    have h1:∀r∈aL P x,r.length<=100:=λr hr=>by delta aL at hr;obtain⟨q,hq,rfl⟩:=VB.mp hr;exact cp.rights q (UW.mp hq).1
    delta bV;split
    ·intro r hr;simp only[TX]at hr;rw[hr,Su];induction e:(aL P x)[(pickOf P s x).toNat]? using Option.casesOn with
     |none=>exact VO _
     |some q=>exact h1 q (To e)
    split
    ·intro r hr;exact pL hr
    exact h1
   rw[Fj]at iJ;generalize bV P s x=R at Cj IA iJ⊢;refine Go.for C R aa (λi ρ=>∃L5,ρ=[.val (aa P.names),.val (aY P.rules),.val (gj P.sp),.val (aa P.picks),.own ls (.list (xs.map jf++((R.take i).map (cq P s x)).map jf)),.own lw (.list (os.map outD)),.val (aa s.pile),.val (bp s.within),.val (cm s.told),.val (d0 s.book),.val (bG s.log),.val (aa (stackOf s)),m6,kA,.val (d0 (bU P s x)),.val (.int (cA s x)),.val (.int (callsOf s)),.val (el R),L5]) (by z_go) (dj (q:=(True/\bB (el R))) (by z_go) ?_) (iG (b:=(aN (el R))) (by z_go) ?_) (λ_ _=>trivial) ⟨yF,by simp⟩ ?_ ?_
   .exact⟨Wa,Wa⟩
   .rfl
   .intro j r az hj bx;obtain⟨L5,rfl⟩:=bx;have Ls:j<R.length:=(SF.mp hj).1;have BR:=IA r (To hj);refine Go.append (l:=ls) (ds:=xs.map jf++((R.take j).map (cq P s x)).map jf) (d:=jf (cq P s x r)) rfl (by z_go) (by z_go) (by z_go) (Ew.dq C ((((True/\((True/\True)/\1<=sizeLine)/\bf .Add (aa r) (D.list [(D.int 0)]))/\(True/\True/\True/\nH (aa s.pile) (some (D.int 1)) none)/\bf .Add (ae .Add (aa r) (D.list [(D.int 0)])) (j6 (aa s.pile) (some (D.int 1)) none))/\((True/\(((((True/\True/\ax (aa s.pile) (D.int 0))/\(((True/\True)/\1=1/\dO (cm s.told))/\(True/\True)))/\3<=sizeLine)/\True)/\1<=sizeLine)/\bf .Add (bp s.within) (D.list [(D.tup [(idx (aa s.pile) (D.int 0)),(bh (cm s.told)),(.int (callsOf s))])]))/\(True/\(True/\(True/\True)))))/\5<=sizeLine) (D.tup [(ae .Add (ae .Add (aa r) (D.list [(D.int 0)])) (j6 (aa s.pile) (some (D.int 1)) none)),(ae .Add (bp s.within) (D.list [(D.tup [(idx (aa s.pile) (D.int 0)),(bh (cm s.told)),(.int (callsOf s))])])),(cm s.told),(d0 (bU P s x)),(bG s.log)]) ?_ ?_) (by simp[sizeLine];exact(A4 [.e Va (.c 100000),.e Vb Va,.e Vc q0] (.e (.a Vb (.i Vd Vc)) kF)) BZ Lk Cj) (by z_go) (Go.nil ⟨.val (aa r),?_⟩)
    ·(refine Eq.substr gP ?_;refine Eq.substr Lo ?_;rw[yV])
     walk_at "c"
     .refine(?_:(r.map D.int).length+1<=sizeLine);simp[sizeLine];exact Vz ‹_› (by decide)
     .exact FU
     .refine(?_:(r.map D.int++[D.int 0]).length+((s.pile.drop 1).map D.int).length<=sizeLine);have:=cs.pile;simp[sizeLine];exact(A2 [.e Va q0,.e Vb pj] (.e (.a fJ (.s Vb K1)) kF)) BR this
     .exact rV.1
     .refine(?_:(s.told.map _).length<2^62);have:=cs.told;simp;exact TV ‹_› (by decide)
     refine(?_:(s.within.map _).length+1<=sizeLine);have:=cs.within;simp[sizeLine];exact Vz ‹_› (by decide)
    ·(refine Eq.substr gP ?_;refine Eq.substr Lo ?_;rw[yV]);refine(?_:D.tup [D.list (r.map D.int++[D.int 0]++(s.pile.drop 1).map D.int),D.list (s.within.map yC++[_]),_,_,_]=D.tup [D.list ((r++[0]++s.pile.drop 1).map D.int),D.list ((s.within++[_]).map yC),_,_,_]);(refine Eq.substr UT ?_;refine Eq.substr UT ?_;refine Eq.substr UT ?_);rfl
    (refine Eq.substr Ug ?_;refine Eq.substr hj ?_);simp only[Option.toList_some,UT,Vt,VG];rw[<-Uh];rfl
   intro az bx;obtain⟨L5,rfl⟩:=bx;rw[UA];refine Go.nil (du.nil (Go.nil (du.nil (Go.nil (du.nil (Go.nil (du.nil (Go.nil ?_))))))));exact iJ _ _ _ _ _ _ _ _ _ _ _ _ _
  exfalso;simp at hq;exact(I1 [.n (.L Qa rX),.L Qa rX] .f) Lj hq
 intro xs az bx;(refine oy bx λh1 h2 h3 h4 s6 s7 fS=>?_;refine dm fS λs8 s9 kB rU m6 kA uq=>?_;refine k9 uq λE8 B8 B7 B6 yF kD=>?_;clear fS uq bx;subst kD);have he:eI P (start P) N=xs:=by rw[DN (i:=xs.length) (by rw[<-h1]) N h3,<-h1]
 (refine Eq.substr UA ?_;refine Eq.substr he ?_);exact Go.ret (d:=.list ((wholeOf P xs).map outD)) ⟨Ev.Hy rfl⟩ rfl
noncomputable abbrev rb:=List (List Nat×List Int)
noncomputable abbrev tE(kv:List Nat×List Int):Str×D:=(T kv.1,aa kv.2)
noncomputable def fL(t:rb):D:=.cF (t.map tE)
noncomputable def bY(w:List Nat)(a b:Nat):List Nat:=(w.drop a).take (b - a)
noncomputable def kU(t:rb)(w:List Nat):List Int:=(look t w).getD []
noncomputable def atEnd(t:rb)(known:List Int)(w:List Nat)(spot e:Nat):List Int:=if e - spot=w.length then known else kU t (bY w spot e)
noncomputable def cV(t:rb)(known:List Int)(w:List Nat)(sym:Int)(spot:Nat):List Nat:=((List.range (w.length+1 - spot)).map (spot+·)).filter λe=>decide (sym∈atEnd t known w spot e)
noncomputable def bj(t:rb)(known:List Int)(w:List Nat)(spot:Nat)(sym:Int):Nat:=(cV t known w sym spot).head?.getD (w.length+1)
noncomputable def fm(t:rb)(known:List Int)(w:List Nat)(right:List Int):Nat:=right.foldl (bj t known w) 0
noncomputable def aT(t:rb)(w:List Nat)(known:List Int)(r:fN):List Int:=if r.1∈known then known else if fm t known w r.2<=w.length then known++[r.1]else known
noncomputable def known0(sp:Sp)(w:List Nat):List Int:=(sp.filter λp=>decide (p.2∈w)).map (·.1)
noncomputable def dn(rules:List fN)(sp:Sp)(t:rb)(w:List Nat):List Int:=(rules++rules++rules).foldl (aT t w) (known0 sp w)
noncomputable def eh(rules:List fN)(sp:Sp)(t:rb)(w:List Nat):rb:=d8 t w (dn rules sp t w)
noncomputable def tableOf(words:List (List Nat))(rules:List fN)(sp:Sp):rb:=words.foldl (eh rules sp) []
noncomputable def aj(ws:List (List Nat)):D:=.list (ws.map λw=>.str (T w))
def tu{κ DQ α:Type}[DecidableEq κ][DecidableEq DQ](g:κ->DQ)(hg:∀a b,g a=g b->a=b)(f:α->D)(aH:List (κ×α))(k:κ):look (aH.map λkv=>(g kv.1,f kv.2)) (g k)=(look aH k).map f:=by
 delta look;induction aH with
 |nil=>rfl
 |cons x xs ih=>
  by_cases hx:x.1=k
  .simp[hx]
  have:g x.1≠g k:=λq=>hx (hg _ _ q);rw[Vt,SW (by simpa using this),SW (by simpa using hx)];exact ih
def C5{κ DQ α:Type}[DecidableEq κ][DecidableEq DQ](g:κ->DQ)(hg:∀a b,g a=g b->a=b)(f:α->D)(aH:List (κ×α))(k:κ)(d:α):put (aH.map λkv=>(g kv.1,f kv.2)) (g k) (f d)=(d8 aH k d).map λkv=>(g kv.1,f kv.2):=by
 delta put d8;rw[any_map];have:(λkv:DQ×D=>decide (kv.1=g k))∘(λkv:κ×α=>(g kv.1,f kv.2))=λkv=>decide (kv.1=k):=by funext kv;exact UD.mpr ⟨hg _ _,λq=>V4 g q⟩
 rw[this];split
 ·simp only[VA,VA];apply TK;intro kv _;refine(?_:(if g kv.1=g k then(g kv.1,f d)else(g kv.1,f kv.2))=(λkv:κ×α=>(g kv.1,f kv.2)) (if kv.1=k then(kv.1,d)else kv));by_cases h:kv.1=k
  .rw[if_pos (V4 g h),if_pos h]
  rw[if_neg (λq=>h (hg _ _ q)),if_neg h]
 simp
def wd(w:List Nat)(h1:a<=b)(h2:b<=w.length):j6 (.str (T w)) (some (.int (a:Nat))) (some (.int (b:Nat)))=.str (T (bY w a b)):=by refine(?_:D.str (jV (T w) (some (a:Int)) (some (b:Int)))=_);delta jV cut bY;simp only[Option.elim,jx];rw[U3 h2,U3 (Vz ‹_› ‹_›)]
def ju(h:(look t w).isSome=true):idx (fL t) (.str (T w))=aa (kU t w)/\ax (fL t) (.str (T w)):=by
 have e:=tu (λw=>T w) (λ_ _ q=>qc q) aa t w;refine aO (SM.mp h) λv hv=>?_;refine⟨?_,?_⟩
 .refine(?_:(look (t.map λkv=>(T kv.1,aa kv.2)) (T w)).getD .none=_);rw[show look (t.map λkv=>(T kv.1,aa kv.2)) (T w)=_ from e];delta kU;rw[hv];rfl
 refine(?_:(look (t.map λkv=>(T kv.1,aa kv.2)) (T w)).isSome=true);rw[show look (t.map λkv=>(T kv.1,aa kv.2)) (T w)=_ from e,hv];rfl
def iU{κ α:Type}[DecidableEq κ](aH:List (κ×α)){k k':κ}(d:α)(h:k'≠k):look (d8 aH k d) k'=look aH k':=by
 delta look d8;split
 ·rename_i q;clear q;induction aH with
  |nil=>rfl
  |cons x xs ih=>
   by_cases hx:x.1=k
   .have h1:x.1≠k':=λq=>h (q.symm.trans hx);(refine Eq.substr Vt ?_;refine Eq.substr (if_pos hx) ?_;refine Eq.substr (SW (a:=(x.1,d)) (by simpa using h1)) ?_;rw[SW (a:=x) (by simpa using h1)]);exact ih
   rw[Vt,if_neg hx];by_cases hk:x.1=k'
   .simp[hk]
   rw[SW (by simpa using hk),SW (by simpa using hk)];exact ih
 rw[find?_append];induction hf:aH.find? (λkv=>decide (kv.1=k'))using Option.casesOn with
 |some v=>rfl
 |none=>simp[V9 h]
def qi{sp:Sp}:∀(words:List (List Nat)) (t:rb) (w:List Nat),(w∈words\/(look t w).isSome=true)->(look (words.foldl (eh rules sp) t) w).isSome=true:=by
 intro l';induction l' with
 |nil=>exact @λt w h=>h.resolve_left (by simp)
 |cons x xs aU=>
  exact @λt w h=>by
   simp only[UY];refine aU _ w ?_;by_cases e:w=x
   .subst e;exact .inr (by delta eh;rw[e6];rfl)
   rcases h with h|h
   .exact .inl ((Vr.mp h).resolve_left e)
   exact .inr (by delta eh;rw[iU _ _ e];exact h)
def tj(a b:Nat):kC (S "range") [.int (a:Nat),.int (b:Nat)]=((List.range (b - a)).map (a+·)).map λ(k:Nat)=>D.int k:=by
 refine(?_:(cH (a:Int) (b:Int) 1).map D.int=_);delta cH;rw[rangeSize_one,VA,VA];have:(if(a:Int)<b then(b:Int) - a else 0).toNat=b - a:=by split<;>lia
 rw[this];apply TK;intro k _;simp only[Function.comp];congr 1;exact(A2 [] (.Q (.a bA (.r ew 1)) (.o sd)))
def tX(h:b<=1000)(ha:a<=1000):i6 false (S "range") [.int (a:Nat),.int (b:Nat)]:=by refine(?_:Builtin.Range.small (a:Int) (b:Int) 1=true);exact small_one (TY _) ((A1 [.e Va pj] (.L bA Ck)) ha) (TY _) ((A1 [.e Va pj] (.L bA Ck)) h)
def G5(c:Nat)(w:List Nat):ag .In (.str (one c)) (.str (T w))=decide (c∈w):=by have:=StrLaws.found_one (T w) c;exact this
def CZ(t:rb)(known:List Int)(w:List Nat)(a:Nat)(y:Int)(h:a<=w.length+1):bj t known w a y<=w.length+1:=by
 delta bj;induction e:(cV t known w y a).head? using Option.casesOn with
 |none=>exact VP _
 |some k=>have hm:k∈cV t known w y a:=mem_of_head? e;delta cV at hm;refine cu (UW.mp hm) λh1 _=>?_;(refine ao (VB.mp h1) λm h2 aB=>?_;clear h1;subst aB);have:=Vm.mp h2;refine(?_:a+m<=_);exact(A3 [.l Va (.s f9 Vc)] (.e (.a Vc Va) f9)) this
def all_ints(xs:List Int):(xs.map D.int).all D.atom=true:=by rw[all_map,UE];intro x _;rfl
def Go.rm(C:Cf G n Lb scope vars)(m:ownAt vars ρ x l d)(c:mX scope vars ρ x=true)(r:Go G (fx name scope vars L a cd aD) n (fT vars x (.val d) ρ) ss Φ):Go G (fx name scope vars L a cd aD) n ρ ss Φ:=by
 have e:fT vars x (.own l d) ρ=ρ:=by
  delta fT;have h:=(jH m).2;refine ext_getElem? λi=>?_;rw[Uk];split
  ·rename_i q;subst q;split
   ·exact h.symm
   rename_i q;exact absurd (SF.mp h).1 q
  rfl
 have:=Go.IJ (l:=l) C c r
 rwa [e]at this
noncomputable def zT:List Str:=[S "words",S "rules",S "spelled",S "table",S "word",S "known",S "left",S "right",S "spot",S "symbol",S "ends"]
def Bq(W:Wd G)(words:List (List Nat))(rules:List fN)(sp:Sp)(hw:words.length<=1000)(vN:∀w∈words,w.length<=100)(hr:rules.length<=100)(Qt:∀r∈rules,r.2.length<=100)(hs:sp.length<=100)(Ow:∀p∈sp,look sp p.1=some p.2)
 (kK:∀(i:Nat) (w:List Nat),words[i]? =some w->∀a b,a<=b->b<=w.length->b - a≠w.length->bY w a b∈words.take i):
 Fn G (Str.ofString "_law_table") (n+1) [aj words,aY rules,gj sp] (fL (tableOf words rules sp)):=by
 refine Fn.intro (name:=uW.name) (W.at_ uW) zT (λL l cd aD=>?_) (λu v w pm cd doc=>rfl) (by decide) (by show 3<=11;exact Tc rfl) (by decide);have C:Cf G n fA uW.scope zT:=⟨by z_go,ft W⟩;refine Go.ex (Go.fw C (d:=.cF []) (by z_go) Fw.vc (by z_go) λlt=>?_);refine Go.for C words (λw=>.str (T w)) (λi ρ=>∃s4 s5 s6 s7 s8 s9 kB,ρ=[.val (aj words),.val (aY rules),.val (gj sp),.own lt (fL (tableOf (words.take i) rules sp)),s4,s5,s6,s7,s8,s9,kB]) (by z_go) (dj (q:=(True/\bB (aj words))) (by z_go) ?_) (iG (b:=(aN (aj words))) (by z_go) ?_) (λ_ _=>trivial) (ya _ _ _ _ _ _ _ rfl) ?_ ?_
 .exact⟨Wa,Wa⟩
 .rfl
 .intro i w az hi bx;refine qv bx λs4 s5 s6 s7 s8 s9 kB kD=>?_;clear bx;subst kD;have zy:=vN w (To hi);have vW:tableOf (words.take (i+1)) rules sp=eh rules sp (tableOf (words.take i) rules sp) w:=by delta tableOf;simp only[Ug,hi,Ui];rfl
  have HH:∀a b,a<=b->b<=w.length->b - a≠w.length->(look (tableOf (words.take i) rules sp) (bY w a b)).isSome=true:=λa b h1 h2 h3=>qi _ _ _ (.inl (kK i w hi a b h1 h2 h3));have Qn:(tableOf (words.take i) rules sp).length<=1000:=by
   have:∀(ws:List (List Nat)) (t:rb),(ws.foldl (eh rules sp) t).length<=t.length+ws.length:=λws=>by
    induction ws with
    |nil=>simp
    |cons x xs ih=>intro t;have h1:=ih (eh rules sp t x);have h2:(eh rules sp t x).length<=t.length+1:=lz ..;simp only[UY,Ux];exact(A4 [.e Va nF,.e Vb uo] (.e Va (.a Vd q8))) h1 h2
   have:=this (words.take i) [];simp only[UC,U7]at this;delta tableOf;exact(A3 [.e Va pj,.e Vb (.a K0 (.i Vc Va))] (.e Vb pj)) hw this
  generalize tableOf (words.take i) rules sp=t at vW HH Qn⊢;have FQ:aN (gj sp)=sp.map λp=>D.int p.1:=by refine(?_:(sp.map λp=>(p.1,D.str (one p.2))).map _=_);rw[VA];rfl
  have Nm:∀{Q:D->Prop},(∀p∈sp,Q (.int p.1))->∀u∈aN (gj sp),Q u:=λ{Q} h=>by rw[FQ];exact aq h
  have FP:∀p∈sp,(look sp p.1).isSome=true:=λp hp=>by rw[Ow p hp];rfl
  have D1:bh (D.str (T w))=.int (w.length:Nat):=by show D.int _=_;rw[cJ]
  have FX:ae .Add (D.int (w.length:Nat)) (D.int 1)=.int ((w.length+1:Nat):Int):=rfl;have CR:dO (D.str (T w)):=by show(T w).length<2^62;rw[cJ];exact TV ‹_› (by decide)
  refine Go.fw C (d:=aa (known0 sp w)) (by z_go) (Fw.comp (bw.dq C ((True/\bB (gj sp))/\(∀u1∈(aN (gj sp)),True/\((True/\True/\ax (gj sp) u1)/\True/\aV .In (idx (gj sp) u1) (.str (T w)))/\((ag .In (idx (gj sp) u1) (.str (T w)))=true->True))/\length (map (λu2=>u2) (filter (λu2=>(ag .In (idx (gj sp) u2) (.str (T w)))) (aN (gj sp))))<=sizeLine) (D.list (map (λu3=>u3) (filter (λu3=>(ag .In (idx (gj sp) u3) (.str (T w)))) (aN (gj sp))))) ?_ ?_)) (by z_go) λlk=>?_
  .refine⟨⟨Wa,Wa⟩,Nm λp hp=>?_,?_⟩
   .rw[(lh (FP p hp)).1];exact⟨Wa,⟨⟨Wa,Wa,(lh (FP p hp)).2⟩,Wa,Wa⟩,λ_=>trivial⟩
   rw[US];refine Vz (Td _ _) ?_;rw[FQ,US];simp[sizeLine];exact Vz ‹_› (by decide)
  .rw[FQ,map_id'];refine(V4 D.list (bX (p:=λp=>decide (p.2∈w)) λp hp=>?_)).trans ?_
   .rw[(lh (FP p hp)).1,Ow p hp];exact G5 _ _
   delta known0 aa;rw[VA];rfl
  have Il:(known0 sp w).length<=100:=by delta known0;rw[US];exact Vz (Td _ _) hs
  have xn:ae .Mult (aY rules) (D.int 3)=.list ((rules++rules++rules).map eN):=by refine(?_:D.list (replicate 3 (rules.map eN)).flatten=_);simp[replicate,UT]
  have OZ:(rules++rules++rules).length<=300:=by simp;exact(A1 [.e Va q0] (.e (.a Va (.a Va Va)) (.c 300))) hr
  have Jw:∀r∈rules++rules++rules,r.2.length<=100:=λr h=>Qt r (by simpa using h);have Jx:dn rules sp t w=(rules++rules++rules).foldl (aT t w) (known0 sp w):=rfl;generalize rules++rules++rules=R at xn OZ Jw Jx;refine Go.for C R eN (λi ρ=>∃s6 s7 s8 s9 kB,ρ=[.val (aj words),.val (aY rules),.val (gj sp),.own lt (fL t),.val (.str (T w)),.own lk (aa ((R.take i).foldl (aT t w) (known0 sp w))),s6,s7,s8,s9,kB]) (by z_go) (dj (q:=((True/\True/\bf .Mult (aY rules) (D.int 3))/\bB (ae .Mult (aY rules) (D.int 3)))) (by z_go) ?_) (iG (b:=(aN (ae .Mult (aY rules) (D.int 3)))) (by z_go) ?_) (λ_ _=>rfl) (Dv _ _ _ _ _ rfl) ?_ ?_
  .refine⟨⟨Wa,Wa,by decide,by decide,?_⟩,Wa⟩;refine(?_:(rules.map eN).length*3<=2^24);rw[US];exact(A1 [.e Va q0] (.e (.r Va 3) kF)) hr
  .rw[xn];rfl
  .intro j r az hj bx;refine k9 bx λs6 s7 s8 s9 kB kD=>?_;clear bx;subst kD;have BR:=Jw r (To hj);have CU:(R.take (j+1)).foldl (aT t w) (known0 sp w)=aT t w ((R.take j).foldl (aT t w) (known0 sp w)) r:=by simp only[Ug,hj,Ui];rfl
   have HK:((R.take j).foldl (aT t w) (known0 sp w)).length<=1000:=by
    have:∀(rs:List fN) (k:List Int),(rs.foldl (aT t w) k).length<=k.length+rs.length:=λrs=>by
     induction rs with
     |nil=>simp
     |cons x xs ih=>
      intro k;have h1:=ih (aT t w k x);have h2:(aT t w k x).length<=k.length+1:=by
       delta aT;split
       ·exact UB _ _
       split<;>simp
      simp only[UY,Ux];exact(A4 [.e Va nF,.e Vb uo] (.e Va (.a Vd q8))) h1 h2
    have:=this (R.take j) (known0 sp w);simp only[UC]at this;exact(A4 [.e Va q0,.e Vb (.c 300),.e Vc (.a Va (.i Vd Vb))] (.e Vc pj)) Il OZ this
   generalize(R.take j).foldl (aT t w) (known0 sp w)=known at CU HK⊢;refine(?_:Go G _ n [.val (aj words),.val (aY rules),.val (gj sp),.own lt (fL t),.val (.str (T w)),.own lk (aa known),.val (.int r.1),.val (aa r.2),s8,s9,kB] _ _);refine Go.ite (c:=decide (r.1∉known)) (Tw.Gh C (True/\True/\aV .NotIn (.int r.1) (aa known)) (ag .NotIn (.int r.1) (aa known)) ?_ ?_) (λhc=>?_) λhc=>Go.nil (du.nil (Go.nil ?_))
   .walk_at "c"
    exact⟨rfl,bC _,VO _⟩
   .exact gB _ _
   .have m9:r.1∉known:=by simpa using hc
    refine Go.assign C (d:=.int (0:Nat)) (by z_go) (Ew.dq C (True) (D.int 0) ?_ ?_) (by z_go) ?_
    .trivial
    .rfl
    refine Go.for C r.2 D.int (λi ρ=>∃s9 kB,ρ=[.val (aj words),.val (aY rules),.val (gj sp),.own lt (fL t),.val (.str (T w)),.own lk (aa known),.val (.int r.1),.val (aa r.2),.val (.int (((r.2.take i).foldl (bj t known w) 0:Nat):Int)),s9,kB]) (by z_go) (dj (q:=(True/\bB (aa r.2))) (by z_go) ?_) (iG (b:=(aN (aa r.2))) (by z_go) ?_) (λ_ _=>trivial) (pA _ _ rfl) ?_ ?_
    .exact⟨Wa,Wa⟩
    .rfl
    .intro k sym az hk bx;obtain⟨s9,kB,rfl⟩:=bx;have I6:(r.2.take (k+1)).foldl (bj t known w) 0=bj t known w ((r.2.take k).foldl (bj t known w) 0) sym:=by simp only[Ug,hk,Ui];rfl
     have I7:(r.2.take k).foldl (bj t known w) 0<=w.length+1:=by
      have:∀(ys:List Int) (a:Nat),a<=w.length+1->ys.foldl (bj t known w) a<=w.length+1:=λys=>by
       induction ys with
       |nil=>intro a h;exact h
       |cons y ys ih=>intro a h;exact ih _ (CZ t known w a y h)
      exact this _ 0 (VO _)
     generalize(r.2.take k).foldl (bj t known w) 0=spot at I6 I7⊢;refine(?_:Go G _ n [.val (aj words),.val (aY rules),.val (gj sp),.own lt (fL t),.val (.str (T w)),.own lk (aa known),.val (.int r.1),.val (aa r.2),.val (.int (spot:Nat)),.val (.int sym),kB] _ _);have EE:∀e:Nat,spot<=e->ae .Sub (D.int e) (D.int (spot:Nat))=.int ((e - spot:Nat):Int):=λe h=>by refine(?_:D.int ((e:Int) - (spot:Int))=_);congr 1;exact V7 (ofNat_sub h)
     have pB:∀e:Nat,spot<=e->e<=w.length->(if ag .Eq (ae .Sub (D.int e) (D.int (spot:Nat))) (D.int (w.length:Nat))=true then aa known else idx (fL t) (j6 (D.str (T w)) (some (D.int (spot:Nat))) (some (D.int e))))=aa (atEnd t known w spot e):=λe h1 h2=>by
      rw[EE e h1];delta atEnd;by_cases hq:e - spot=w.length
      .rw[if_pos hq,if_pos (show ag .Eq (D.int ((e - spot:Nat):Int)) (D.int (w.length:Nat))=true from Vk (by rw[hq]))]
      (refine Eq.substr (if_neg hq) ?_;refine V3 (if_neg (show¬ag .Eq (D.int ((e - spot:Nat):Int)) (D.int (w.length:Nat))=true from λz=>hq (by have z':decide (((e - spot:Nat):Int)=(w.length:Nat))=true:=z;simp at z';exact(A3 [.Q (.o vR) (.o Vc)] (.q vR Vc)) z'))) ?_;refine Eq.substr (wd w h1 h2) ?_;exact((ju (HH spot e h1 h2 hq)).1))
     have Ja:∀e∈(List.range (w.length+1 - spot)).map (spot+·),spot<=e/\e<=w.length:=λe he=>by obtain⟨m,h2,rfl⟩:=VB.mp he;have:=Vm.mp h2;exact(A3 [.l Va (.s f9 Vc)] (.a (.e Vc (.a Vc Va)) (.e (.a Vc Va) Vb))) this
     refine Go.eV C (d:=.list (((cV t known w sym spot).map λ(e:Nat)=>(e:Int)).map D.int)) (by z_go) (bw.j7 (oj C.fr) (bw.dq C (((True/\((((True/\True)/\1=1/\dO (.str (T w)))/\True/\bf .Add (bh (.str (T w))) (D.int 1))/\True))/\i6 false (S "range") [(.int (spot:Nat)),(ae .Add (bh (.str (T w))) (D.int 1))])/\(∀u1∈(kC (S "range") [(.int (spot:Nat)),(ae .Add (bh (.str (T w))) (D.int 1))]),True/\(True/\(((True/\True/\bf .Sub u1 (.int (spot:Nat)))/\((True/\True)/\1=1/\dO (.str (T w)))/\aV .Eq (ae .Sub u1 (.int (spot:Nat))) (bh (.str (T w))))/\((ag .Eq (ae .Sub u1 (.int (spot:Nat))) (bh (.str (T w))))=true->True)/\((ag .Eq (ae .Sub u1 (.int (spot:Nat))) (bh (.str (T w))))=false->(True/\(True/\True/\True/\nH (.str (T w)) (some (.int (spot:Nat))) (some u1))/\ax (fL t) (j6 (.str (T w)) (some (.int (spot:Nat))) (some u1)))))/\aV .In (.int sym) (if(ag .Eq (ae .Sub u1 (.int (spot:Nat))) (bh (.str (T w))))=true then(aa known)else(idx (fL t) (j6 (.str (T w)) (some (.int (spot:Nat))) (some u1)))))/\((ag .In (.int sym) (if(ag .Eq (ae .Sub u1 (.int (spot:Nat))) (bh (.str (T w))))=true then(aa known)else(idx (fL t) (j6 (.str (T w)) (some (.int (spot:Nat))) (some u1)))))=true->True))/\length (map (λu2=>u2) (filter (λu2=>(ag .In (.int sym) (if(ag .Eq (ae .Sub u2 (.int (spot:Nat))) (bh (.str (T w))))=true then(aa known)else(idx (fL t) (j6 (.str (T w)) (some (.int (spot:Nat))) (some u2)))))) (kC (S "range") [(.int (spot:Nat)),(ae .Add (bh (.str (T w))) (D.int 1))])))<=sizeLine) (D.list (map (λu3=>u3) (filter (λu3=>(ag .In (.int sym) (if(ag .Eq (ae .Sub u3 (.int (spot:Nat))) (bh (.str (T w))))=true then(aa known)else(idx (fL t) (j6 (.str (T w)) (some (.int (spot:Nat))) (some u3)))))) (kC (S "range") [(.int (spot:Nat)),(ae .Add (bh (.str (T w))) (D.int 1))])))) ?_ ?_) (all_ints _)) (by z_go) ?_
     ·(refine Eq.substr D1 ?_;refine Eq.substr FX ?_;rw[tj]);refine⟨⟨⟨Wa,⟨⟨⟨Wa,Wa⟩,rfl,CR⟩,Wa,Wa⟩,Wa⟩,tX (TV ‹_› (by decide)) ((A2 [.e Va q0,.e Vb fJ] (.e Vb pj)) zy I7)⟩,aq (enc:=λ(k:Nat)=>D.int k) λe he=>?_,?_⟩
      .refine cu (Ja e he) λyx It=>?_;rw[pB e yx It];refine⟨Wa,⟨Wa,⟨⟨⟨Wa,Wa,Wa⟩,⟨⟨Wa,Wa⟩,rfl,CR⟩,Wa⟩,λ_=>trivial,λhq=>?_⟩,rfl,bC _,VO _⟩,λ_=>trivial⟩;have eH:e - spot≠w.length:=λq=>by rw[EE e yx]at hq;have:decide (((e - spot:Nat):Int)=(w.length:Nat))=false:=hq;rw[q]at this;simp at this
       rw[wd w yx It];exact⟨Wa,⟨Wa,Wa,Wa,by show(T w).length<=sizeLine;rw[cJ];simp[sizeLine];exact Vz ‹_› (by decide),Wa,Wa⟩,(ju (HH spot e yx It eH)).2⟩
      rw[US];refine Vz (Td _ _) ?_;simp[sizeLine];exact(A2 [.e Va q0] (.e fJ (.a kF Vb))) zy
     ·(refine Eq.substr D1 ?_;refine Eq.substr FX ?_;rw[tj,map_id']);refine(V4 D.list (bX (p:=λe=>decide (sym∈atEnd t known w spot e)) λe he=>?_)).trans ?_
      .refine cu (Ja e he) λyx It=>?_;rw[pB e yx It];exact lj _ _
      rw[VA];rfl
     refine Go.assign C (d:=.int (bj t known w spot sym:Nat)) (by z_go) (Ew.dq C (let bD:=.list (((cV t known w sym spot).map λ(e:Nat)=>(e:Int)).map D.int);let ee:=ag .NotEq bD (D.list []);(True/\(True/\0<=sizeLine)/\aV .NotEq bD (D.list []))/\(ee=true->(True/\True/\ax bD (D.int 0)))/\(ee=false->(((True/\True)/\1=1/\dO (.str (T w)))/\True/\bf .Add (bh (.str (T w))) (D.int 1)))) (let bD:=.list (((cV t known w sym spot).map λ(e:Nat)=>(e:Int)).map D.int);if(ag .NotEq bD (D.list []))=true then(idx bD (D.int 0))else(ae .Add (bh (.str (T w))) (D.int 1))) ?_ ?_) (by z_go) (Go.nil ⟨.val (.int sym),.val (.list (((cV t known w sym spot).map λ(e:Nat)=>(e:Int)).map D.int)),?_⟩)
     .rw[D1];refine⟨⟨Wa,⟨Wa,by exact VO _⟩,?_⟩,λhq=>⟨Wa,Wa,?_⟩,λ_=>⟨⟨⟨Wa,Wa⟩,rfl,CR⟩,Wa,Wa⟩⟩
      .refine⟨bC _,rfl,?_⟩;refine(?_:b5 _+1<=20);rw[eF];exact VC _
      induction he:cV t known w sym spot using List.casesOn with
      |nil=>rw[he]at hq;exact fR hq
      |cons e es=>
       have OR:(e::es).length<=1001:=by rw[<-he];delta cV;refine Vz (Td _ _) ?_;simp;exact(A2 [.e Va q0] (.e fJ (.a (.c 1001) Vb))) zy
       refine⟨by exact TY _,?_,?_⟩
       .simp
       simp at OR⊢;exact(A1 [.e Va pj] (.l fJ o9)) OR
     .rw[D1,FX];delta bj
      cases cV t known w sym spot with
      |nil=>rfl
      |cons e es=>rfl
     rw[I6];rfl
    intro az bx;obtain⟨s9,kB,rfl⟩:=bx;rw[UA];have Qs:r.2.foldl (bj t known w) 0=fm t known w r.2:=rfl;rw[Qs];refine Go.ite (c:=decide (fm t known w r.2<=w.length)) (Tw.dq C (True/\((True/\True)/\1=1/\dO (.str (T w)))/\aV .LtE (.int ((fm t known w r.2:Nat):Int)) (bh (.str (T w)))) (ag .LtE (.int ((fm t known w r.2:Nat):Int)) (bh (.str (T w)))) ?_ ?_) (λhp=>?_) λhp=>Go.nil (du.nil (Go.nil (du.nil (Go.nil ?_))))
    .rw[D1]
     walk_at "r"
     .exact CR
     exact trivial
    .rw[D1];exact UD.mpr (VI)
    .refine Go.append (l:=lk) (ds:=known.map D.int) (d:=.int r.1) rfl (by z_go) (by z_go) (by z_go) (Ew.dq C (True) (.int r.1) ?_ ?_) (by simp[sizeLine];exact Vz ‹_› (by decide)) (by z_go) (Go.nil (du.nil (Go.nil (du.nil (Go.nil ?_)))))
     .trivial
     .rfl
     refine⟨.val (.int r.1),.val (aa r.2),.val (.int ((fm t known w r.2:Nat):Int)),s9,kB,?_⟩;rw[CU];delta aT;(refine Eq.substr (if_neg m9) ?_;refine Eq.substr (if_pos (by simpa using hp)) ?_);delta aa;rw[UT];rfl
    refine⟨.val (.int r.1),.val (aa r.2),.val (.int ((fm t known w r.2:Nat):Int)),s9,kB,?_⟩;rw[CU];delta aT;rw[if_neg m9,if_neg (by simpa using hp)]
   have m9:r.1∈known:=by simpa using hc
   refine⟨.val (.int r.1),.val (aa r.2),s8,s9,kB,?_⟩;rw[CU];delta aT;rw[if_pos m9]
  intro az bx;refine k9 bx λs6 s7 s8 s9 kB kD=>?_;clear bx;subst kD;(refine Eq.substr UA ?_;refine Eq.substr (V7 Jx) ?_);refine Go.rm C (x:=S "known") (l:=lk) (d:=aa (dn rules sp t w)) rfl (by z_go) ?_;refine Go.FD (l:=lt) (aH:=t.map tE) (d:=aa (dn rules sp t w)) (j:=T w) rfl (by z_go) (Ew.dq C (True) (aa (dn rules sp t w)) ?_ ?_) (Ew.dq C (True) (.str (T w)) ?_ ?_) (by simp[sizeLine];exact Vz ‹_› (by decide)) (by z_go) (Go.nil ?_)
  .trivial
  .rfl
  .trivial
  .rfl
  refine⟨.val (.str (T w)),.val (aa (dn rules sp t w)),s6,s7,s8,s9,kB,?_⟩;rw[vW];have e:=C5 (λw=>T w) (λ_ _ q=>qc q) aa t w (dn rules sp t w);rw[show Mine.put (t.map tE) (T w) (aa (dn rules sp t w))=_ from e];rfl
 intro az bx;refine qv bx λs4 s5 s6 s7 s8 s9 kB kD=>?_;clear bx;subst kD;rw[UA];exact Go.ret (d:=fL (tableOf words rules sp)) ⟨Ev.Hy rfl⟩ rfl
structure Row where
 n:Int
 v:Int
 t:List Nat
 deriving DecidableEq
noncomputable def aP(r:Row):D:=.list [.int r.n,.int r.v,.str (T r.t)]
noncomputable def aZ(rs:List Row):D:=.list (rs.map aP)
noncomputable def valOf(sg t:List Nat):Int:=((List.range t.length).map λk=>(sg.idxOf (t.getD k 0):Int)*2^(t.length - 1 - k)).sum
noncomputable def rowOf(sg t:List Nat):Row:=⟨t.length,valOf sg t,t⟩
noncomputable def aR(way:Int)(a b:Row):Int:=if a.n<b.n then -1 else if b.n<a.n then 1 else if a.v<b.v then -way else if b.v<a.v then way else 0
noncomputable def wantOf(way:Int)(one row:Row):Int:=if one.n≠row.n then 1 else if one.v≠row.v then(way.natAbs:Int)else 0
noncomputable def g8(way:Int)(line:List Row)(row:Row):List Int:=(line.filter λone=>decide (((aR way one row).natAbs:Int)≠wantOf way one row)).map λ_=>1
noncomputable def eQ(way:Int)(line:List Row)(row:Row):List Row:=
 if(0:Int)∈line.map (aR way · row)then line
 else line.take ((line.map (aR way · row)).filter λa=>decide (a<0)).length++row::line.drop ((line.map (aR way · row)).filter λa=>decide (a<0)).length
noncomputable def cY(way:Int)(s:List Row×List Int)(row:Row):List Row×List Int:=(eQ way s.1 row,s.2++g8 way s.1 row)
noncomputable def bT(way:Int)(rows:List Row):List Row×List Int:=rows.foldl (cY way) ([],[])
noncomputable def dD:Int:=2^80
noncomputable def cU(rows:List Row):List Row:=((List.range rows.length).filter λk=>decide (rows.getD k ⟨0,0,[]⟩∉rows.take k)).map λk=>rows.getD k ⟨0,0,[]⟩
noncomputable def turned(way:Int)(r:Row):Row:=⟨r.n,way*r.v,r.t⟩
noncomputable def iz(r:Row):Int:=r.n*dD+r.v
noncomputable def JW(rows:List Row):List Row:=rows.mergeSort λa b=>decide (iz a<=iz b)
noncomputable def dI(way:Int)(rows:List Row):List Row:=JW ((cU rows).map (turned way))
noncomputable def bP(way:Int)(sg:List Nat)(texts:List (List Nat)):List (List Nat):=
 if(bT way (texts.map (rowOf sg))).2=[]/\(bT way (texts.map (rowOf sg))).1.map (·.t)=(dI way (texts.map (rowOf sg))).map (·.t)then(bT way (texts.map (rowOf sg))).1.map (·.t)else[]
noncomputable def cD(way:Int):D:=.judge (.list [.tup [.int 0,.int 1],.tup [.int 1,.int way]])
noncomputable def NQ(way:Int):List D->D
 |[.list [.int a,.int b,_],.list [.int c,.int d,_]]=>.int (aR way ⟨a,b,[]⟩ ⟨c,d,[]⟩)
 |_=>.none
noncomputable def jg(way:Int)(pre post:D):jX:={eP (λf=>f==S "sorted") (λ_ _=>post) (λ_ ds=>ds=[pre])with
 cZ:=λm d ds=>match d with|.judge _=>NQ way ds|d=>CJ m d ds
 eS:=λm d ds=>match d with|.judge x=>m=S "compare"/\D.judge x=cD way/\∃a b,ds=[aP a,aP b]|d=>rp m d ds}
def Dm (W:Wd G) (hs:PL G n [pre] (λvs=>call (.builtin "sorted") vs) post) (hJ:∀a b,jq G n (S "compare") (cD way) [aP a,aP b] (.int (aR way a b))):i8 G n (jg way pre post) where
 w:=W
 glob:=(ft W).glob
 call:=(fh W (fs:=λf=>f==S "sorted") (call:=λ_ _=>post) (ok:=λ_ ds=>ds=[pre]) λf ds hf hd=>by
  have:f=S "sorted":=by simpa using hf
  subst this hd;exact .bi W.sorted hs).call
 cZ:=λm d ds h=>by
  delta jg at h⊢;dsimp only at h⊢;induction d using D.casesOn with
  |judge x=>obtain⟨rfl,h2,a,b,rfl⟩:=h;rw[h2];exact hJ a b
  |_=>exact wu _ _ _ h
def vf(h:∀c∈t,c<1000):(D.str (T t)).flat=true:=by refine(?_:PyData.strOk (T t)=true);delta PyData.strOk;simp only[Array.all_eq_true'];intro c hc;have:=h c (by simpa using hc);simp;exact TZ ‹_› (by decide)
def oF(t:List Nat)(h:k<t.length)(hz:t.length<=1000):ax (.str (T t)) (.int (k:Nat))/\idx (.str (T t)) (.int (k:Nat))=.str (one (t.getD k 0)):=by refine⟨⟨by exact neg_natCast_le_natCast (T t).cps.toList.length k,by show(k:Int)<t.length;exact VN.mpr ‹_›,by show t.length<2^40;exact TV ‹_› (by decide)⟩,?_⟩;refine(?_:D.str (one (ke t (k:Int) 0))=_);delta ke;(refine Eq.substr (if_pos (TY _)) ?_;simp only[Ut])
def one_inj(h:one a=one b):a=b:=by have:=V4 (λx:Str=>x.cps.toList) h;simpa[one]using this
def x9(sg:List Nat)(c:Nat):(sg.map one).idxOf (one c)=sg.idxOf c:=by
 induction sg with
 |nil=>rfl
 |cons s ss ih=>
  simp only[Vt,idxOf_cons,idxOf_cons,ih];by_cases h:s=c
  .subst h;simp
  have:one s≠one c:=λq=>h (one_inj q);rw[show(one s==one c)=false from TH.mpr this,show(s==c)=false from TH.mpr h]
noncomputable def aX(sg:List Nat):D:=.list (sg.map λc=>.str (one c))
def oQ(way:Int)(line:List Row)(row:Row):(eQ way line row).length<=line.length+1:=by
 delta eQ;split
 ·exact UB _ _
 simp only[TU,Ux,UC,UO];exact(A2 [] (.e (.a (.i Va Vb) (.a ux K1)) f9))
def oA(way:Int)(rows:List Row):(bT way rows).1.length<=rows.length:=by
 have:∀(rs:List Row) (s:List Row×List Int),(rs.foldl (cY way) s).1.length<=s.1.length+rs.length:=λrs=>by
  induction rs with
  |nil=>simp
  |cons x xs ih=>intro s;have h1:=ih (cY way s x);have h2:(cY way s x).1.length<=s.1.length+1:=oQ way s.1 x;simp only[UY,Ux];exact(A4 [.e Va nF,.e Vb uo] (.e Va (.a Vd q8))) h1 h2
 simpa[bT]using this rows ([],[])
def Dc(way:Int)(rows:List Row):(bT way rows).2.length<=rows.length*rows.length:=by
 have:∀(rs:List Row) (s:List Row×List Int) (m:Nat),s.1.length+rs.length<=m->(rs.foldl (cY way) s).2.length<=s.2.length+rs.length*m:=λrs=>by
  induction rs with
  |nil=>simp
  |cons x xs ih=>
   intro s m hm;have h2:(cY way s x).1.length<=s.1.length+1:=oQ way s.1 x;have h1:=ih (cY way s x) m (by simp at hm;exact(A4 [.e pQ Vc,.e Vd fJ] (.e (.a Vd Vb) Vc)) hm h2);have h3:(cY way s x).2.length<=s.2.length+m:=by
    refine(?_:(s.2++g8 way s.1 x).length<=_);rw[TU];have:(g8 way s.1 x).length<=s.1.length:=by delta g8;rw[US];exact Td _ _
    simp at hm;exact(A5 [.e pQ Vc,.e Vd Va] (.e (.a Ve Vd) (.a Ve Vc))) hm this
   simp only[UY,Ux];rw[Nat.add_mul];exact(A5 [.e Va nF,.e Vb (.a Vd Ve)] (.e Va (.a Vd (.a Vc (.m 1 Ve))))) h1 h3
 have h:=this rows ([],[]) rows.length (by simp);simpa[bT]using h
def rj(a b:D):(aF (D.tup [a,b])).headD D.none=a:=rfl
def ri(a b:D):(aF (D.tup [a,b])).tail.headD D.none=b:=rfl
def gR(r:Row)(h0:0<=i)(h1:i<3):ax (aP r) (.int i):=⟨by show -(3:Int)<=i;exact(I1 [.E K0 Qa] (.E (.g K3) Qa)) h0,by show i<(3:Int);exact TF h1,by show 3<2^40;decide⟩
def xK{α:Type}(xs:List α)(z:α):(List.range xs.length).zip xs=(List.range xs.length).map λk=>(k,xs.getD k z):=by
 apply ext_getElem?;intro i;by_cases h:i<xs.length
 .have e:((List.range xs.length).zip xs)[i]? =some (i,xs[i]):=SI.mpr ⟨TL h,SK h⟩;simp only[e,Uc,TL h];simp[h]
 rw[Tg (by simp;exact UJ ‹_›),Tg (by simp;exact UJ ‹_›)]
def Hn(R:List Row):kC (S "enumerate") [aZ R]=(List.range R.length).map λk=>D.tup [.int (k:Nat),aP (R.getD k ⟨0,0,[]⟩)]:=by
 refine(?_:(nV (R.map aP)).map D.tup=_);delta nV;have e:=xK (R.map aP) (aP ⟨0,0,[]⟩);(refine Eq.substr e ?_;refine V3 VA ?_;refine V3 VA ?_;rw[US]);apply TK;intro k _;simp only[Function.comp];(refine Eq.substr Su ?_;refine Eq.substr Uc ?_;refine Eq.substr Su ?_)
 cases R[k]? <;>rfl
def Ea(R:List Row)(k:Nat):j6 (aZ R) none (some (.int k))=aZ (R.take k):=by refine(?_:D.list (cut (R.map aP) none (some (k:Int)))=_);rw[tG,<-map_take];rfl
def AN(h:aP a=aP b):a=b:=by obtain⟨n,v,t⟩:=a;obtain⟨n',v',t'⟩:=b;delta aP at h;simp only[D.list.injEq,List.cons.injEq,D.int.injEq,D.str.injEq,and_true]at h;refine dW h λh1 h2 h3=>?_;simp only[h1,h2,qc h3]
def vw(x:Row)(ys:List Row):ag .NotIn (aP x) (aZ ys)=decide (x∉ys):=by
 refine(?_:(!(ys.map aP).any λy=>qX y (aP x))=_);rw[any_map];have:∀ys:List Row,(ys.any ((λy=>qX y (aP x))∘aP))=decide (x∈ys):=λys=>by
  induction ys with
  |nil=>rfl
  |cons y ys ih=>
   simp only[any_cons,ih];refine(?_:(qX (aP y) (aP x)||_)=_);rw[nk (P:=y=x) rfl rfl ⟨AN,λq=>by rw[q]⟩];by_cases h:y=x
   .simp[h]
   simp[h,V9 h]
 rw[this];simp
def getD_mem{α:Type}{xs:List α}{z:α}(h:k<xs.length):xs.getD k z∈xs:=by rw[Su,SK h];exact UH h
def oP(h:∀c∈r.t,c<1000):(aP r).flat=true:=by have e:=vf h;refine(?_:(true&&(true&&((D.str (T r.t)).flat&&true)))=true);rw[e];rfl
def xI:∀{rs:List Row},(∀r∈rs,∀c∈r.t,c<1000)->dA (rs.map aP)=true:=by
 intro l';induction l' with
 |nil=>exact @λ_=>rfl
 |cons r rs aU=>exact @λh=>by refine(?_:((aP r).flat&&dA (rs.map aP))=true);rw[oP (h r (.head _)),aU λq hq=>h q (.tail _ hq)];rfl
def oO:∀{rs:List Row},(∀r∈rs,∀c∈r.t,c<1000)->(D.list (rs.map λr=>D.str (T r.t))).flat=true:=by
 intro l';induction l' with
 |nil=>exact @λ_=>rfl
 |cons r rs aU=>exact @λh=>by refine(?_:((D.str (T r.t)).flat&&dA (rs.map λr=>D.str (T r.t)))=true);have e:=aU λq hq=>h q (.tail _ hq);rw[vf (h r (.head _)),show dA (rs.map λr=>D.str (T r.t))=true from e];rfl
def xC:∀rs:List Row,b5 (rs.map λr=>D.str (T r.t))=0:=by
 intro l';induction l' with
 |nil=>exact rfl
 |cons r rs aU=>exact by refine(?_:max 0 (b5 (rs.map λr=>D.str (T r.t)))=0);rw[aU];rfl
def nf(rs:List Row):map (λu=>idx u (D.int 2)) (aN (aZ rs))=rs.map λr=>D.str (T r.t):=by refine(?_:(rs.map aP).map _=_);rw[VA];rfl
def oM:∀rs:List Row,(D.list (rs.map λr=>D.str (T r.t))).pure=true:=by
 intro l';induction l' with
 |nil=>exact rfl
 |cons r rs aU=>exact aU
def Bx(xs ys:List Row):ag .Eq (D.list (xs.map λr=>D.str (T r.t))) (D.list (ys.map λr=>D.str (T r.t)))=decide (xs.map (·.t)=ys.map (·.t)):=by
 refine nk (oM xs) (oM ys) ⟨λh=>?_,λh=>?_⟩
 .have h':xs.map (λr=>D.str (T r.t))=ys.map λr=>D.str (T r.t):=by simpa using h
  have h2:=V4 (map λd=>match d with|.str x=>x.cps.toList|_=>[]) h';rw[VA,VA]at h2;exact h2
 have e:∀zs:List Row,zs.map (λr=>D.str (T r.t))=(zs.map (·.t)).map λt=>D.str (T t):=λzs=>by rw[VA];rfl
 simp only[e,e,h]
def fk(rows:List Row)(r:Row):r∈cU rows↔r∈rows:=by
 delta cU;constructor
 .intro h;obtain⟨k,hk,rfl⟩:=VB.mp h;exact getD_mem (Vm.mp (UW.mp hk).1)
 intro h;have cB:rows.idxOf r<rows.length:=idxOf_lt_length_of_mem h;have y9:rows.getD (rows.idxOf r) ⟨0,0,[]⟩=r:=by simp only[Su,SK cB,Option.getD_some,getElem_idxOf]
 refine VB.mpr ⟨rows.idxOf r,UW.mpr ⟨Vm.mpr cB,?_⟩,y9⟩;rw[y9];refine Vk λq=>?_;obtain⟨j,hj,e⟩:=Tu.mp q;rw[UC]at hj;rw[getElem_take]at e;have h2:rows.idxOf r<=j:=by refine V1.mp λz=>?_;have:=not_of_lt_findIdx (p:=(·==r)) z;simp[e]at this
 exact(A3 [.l Va (.i Vb Vc),.e Vb Va] .f) hj h2
def lN(rows:List Row):(cU rows).Nodup:=by delta cU;delta Nodup;rw[Ul];have h:=(pairwise_lt_range (n:=rows.length)).filter (λk=>decide (rows.getD k ⟨0,0,[]⟩∉rows.take k));refine h.imp_of_mem λ{a b} ha hb nD e=>?_;refine cu (UW.mp ha) λQ5 _=>?_;refine cu (UW.mp hb) λR9 nB=>?_;have OX:=of_decide_eq_true nB;rw[<-e]at OX;have BW:=Vm.mp Q5;refine OX ?_;simp only[Su,SK BW,Option.getD_some];exact Tu.mpr ⟨a,by simp;exact(A3 [.l Va Vb,.l Va Vc] (.l Va (.i Vb Vc))) nD BW,by simp⟩
def vp(h:r∈eQ way line row):r∈line\/r=row:=by
 delta eQ at h;split at h
 .exact .inl h
 rcases UU.mp h with q|q
 .exact .inl (TC q)
 rcases Vr.mp q with q|q
 .exact .inr q
 exact .inl (mem_of_mem_drop q)
def tv(way:Int)(rows:List Row):∀r∈(bT way rows).1,r∈rows:=by
 have:∀(rs:List Row) (s:List Row×List Int),∀r∈(rs.foldl (cY way) s).1,r∈s.1\/r∈rs:=λrs=>by
  induction rs with
  |nil=>intro s r h;exact .inl h
  |cons x xs ih=>
   intro s r h;rcases ih (cY way s x) r h with q|q
   .rcases vp q with q|q
    .exact .inl q
    exact .inr (q▸ .head _)
   exact .inr (.tail _ q)
 intro r h;exact(this rows ([],[]) r h).resolve_left (by simp)
noncomputable def D7:List Str:=[S "texts",S "signs",S "judge",S "way",S "line",S "odd",S "rows",S "row",S "answers",S "plain"]
structure jr(way:Int)(sg:List Nat)(texts:List (List Nat)):Prop where
 num:texts.length<=60
 len:∀t∈texts,t.length<=60
 chr:∀t∈texts,∀c∈t,c∈sg
 sgn:∀c∈sg,c<1000
 Oa:sg.length<=10
 FA:way.natAbs<=10
 w0:way≠0
 val:∀t∈texts,0<=valOf sg t/\valOf sg t<2^70
 key:∀s∈texts,∀t∈texts,s.length=t.length->valOf sg s=valOf sg t->s=t
def DD {G:Gd} (W:Wd G) (way:Int) (sg:List Nat) (texts:List (List Nat)) (ok:jr way sg texts) (hJ:∀a b,jq G n (S "compare") (cD way) [aP a,aP b] (.int (aR way a b))):
 Fn G (Str.ofString "_law_line") (n+1) [aj texts,aX sg,cD way,.int way] (aj (bP way sg texts)):=by
 refine Fn.intro (name:=zK.name) (W.at_ zK) D7 (λL l cd aD=>?_) (λu v w x pm cd doc=>rfl) (by decide) (by show 4<=10;exact Tc rfl) (by decide);have zz:PL G n [aZ ((cU (texts.map (rowOf sg))).map (turned way))] (λvs=>call (.builtin "sorted") vs) (aZ (dI way (texts.map (rowOf sg)))):=by
  have pB:∀r∈cU (texts.map (rowOf sg)),∃t∈texts,r=rowOf sg t:=λr hr=>by refine ao (VB.mp ((fk _ r).mp hr)) λt h1 h2=>?_;exact bH t h1 h2.symm
  have D3:∀r∈cU (texts.map (rowOf sg)), -dD<2*(way*r.v)/\2*(way*r.v)<dD:=λr hr=>by
   obtain⟨t,ht,rfl⟩:=pB r hr;refine cu (ok.val t ht) λh1 h2=>?_;have h3:=ok.FA;have e:((way*valOf sg t).natAbs:Int)=way.natAbs*(valOf sg t).natAbs:=by rw[natAbs_mul];rfl
   have h4:way.natAbs*(valOf sg t).natAbs<=10*2^70:=Nat.mul_le_mul h3 ((ar 1 2 [_] [_] [.E K0 Qa,.L Qa IF,.i vP (.Q bA Qa)] (.e Va IF)) h1 h2 Tv);have h5:(way*valOf sg t).natAbs<=10*2^70:=by rw[natAbs_mul];exact h4
   refine(?_: -dD<2*(way*valOf sg t)/\2*(way*valOf sg t)<dD);generalize way*valOf sg t=z at h5⊢;exact(ar 1 2 [_] [_] [.e Va (.c 11805916207174113034240),.i vP (.Q bA Qa),.i (.E Qa K0) (.Q bA (.g Qa))] (.a (.L (.g D5) (.m 2 Qa)) (.L (.m 2 Qa) D5))) h5 Tv Sv
  have HJ:(((cU (texts.map (rowOf sg))).map (turned way)).map iz).Nodup:=by
   rw[VA];delta Nodup;rw[Ul];refine(lN (texts.map (rowOf sg))).imp_of_mem λ{a b} ha hb nD e=>?_;have b1:=D3 a ha;have b2:=D3 b hb;(refine ao (pB a ha) λs hs aB=>?_;subst aB);(refine ao (pB b hb) λt ht aB=>?_;subst aB);have e':(s.length:Int)*dD+way*valOf sg s=(t.length:Int)*dD+way*valOf sg t:=e;have Pf: -dD<2*(way*valOf sg s)/\2*(way*valOf sg s)<dD:=b1;have Pe: -dD<2*(way*valOf sg t)/\2*(way*valOf sg t)<dD:=b2;have hl:s.length=t.length:=by generalize way*valOf sg s=p at e' Pf;generalize way*valOf sg t=q at e' Pe;exact(ar 2 4 [_,_] [_,_] [.Q (.a (.r bA 1208925819614629174706176) Qa) (.a (.r ew 1208925819614629174706176) Qb),.a (.L (.g D5) (.m 2 Qa)) (.L (.m 2 Qa) D5),.a (.L (.g D5) (.m 2 Qb)) (.L (.m 2 Qb) D5)] se) e' Pf Pe
   have hv:way*valOf sg s=way*valOf sg t:=by rw[hl]at e';exact Int.add_left_cancel e'
   have pM:valOf sg s=valOf sg t:=Int.eq_of_mul_eq_mul_left ok.w0 hv;exact nD (by rw[ok.key s hs t ht hl pM])
  have OJ:(((cU (texts.map (rowOf sg))).map (turned way)).map aP).map (kj dD)=((cU (texts.map (rowOf sg))).map (turned way)).map iz:=by rw[VA];rfl
  refine x5 (K:=dD) ?_ (λd hd=>?_) (by rw[OJ];exact HJ) λys hy=>?_
  .rw[US,US];delta cU;rw[US];refine TV (Td _ _) ?_;rw[Uv,US];have:=ok.num;exact TV ‹_› (by decide)
  .obtain⟨q,hq,rfl⟩:=VB.mp hd;(refine ao (VB.mp hq) λr hr aB=>?_;clear hq;subst aB);exact Dw _ _ _ rfl ((D3 r hr).1) ((D3 r hr).2)
  have hp:((dI way (texts.map (rowOf sg))).map aP).Perm (((cU (texts.map (rowOf sg))).map (turned way)).map aP):=(TR _ _).map _;refine eY (kj dD) (hy.1.trans hp.symm) ?_ hy.2 ?_
  .exact((hy.1.map (kj dD)).nodup_iff).mpr (by rw[OJ];exact HJ)
  rw[Ul];have:=pairwise_mergeSort (le:=λ(a b:Row)=>decide (iz a<=iz b)) (λa b c h1 h2=>by simp at*;exact Int.le_trans ‹_› ‹_›) (λa b=>by simp;exact Int.le_total (iz a) (iz b)) ((cU (texts.map (rowOf sg))).map (turned way));exact this.imp λ{a b} h=>of_decide_eq_true (p:=iz a<=iz b) h
 have C:Cf G n (jg way (aZ ((cU (texts.map (rowOf sg))).map (turned way))) (aZ (dI way (texts.map (rowOf sg))))) zK.scope D7:=⟨by z_go,Dm W zz hJ⟩;generalize CQ:aZ ((cU (texts.map (rowOf sg))).map (turned way))=pre at C;generalize zA:aZ (dI way (texts.map (rowOf sg)))=post at C;have hlen:∀t:List Nat,bh (D.str (T t))=.int (t.length:Nat):=λt=>by show D.int _=_;rw[cJ]
 have Al:∀t:List Nat,kC (S "range") [D.int (t.length:Nat)]=(List.range t.length).map λ(k:Nat)=>D.int k:=λt=>by refine(?_:(cH 0 ((t.length:Nat):Int) 1).map D.int=_);rw[iP,VA];rfl
 have Ji:aN (aj texts)=texts.map λt=>D.str (T t):=rfl;have I8:(sg.map λc=>D.str (one c)).map toS=sg.map one:=by rw[VA];rfl
 have Jl:∀t∈texts,∀{k:Nat},k<t.length->(jg way pre post).cZ (S "index") (aX sg) [idx (D.str (T t)) (D.int k)]=.int (sg.idxOf (t.getD k 0):Nat):=λt ht k hk=>by rw[(oF t hk (by have:=ok.len t ht;exact Vz ‹_› (Tc rfl))).2];refine(?_:D.int (((sg.map λc=>D.str (one c)).map toS).idxOf (one (t.getD k 0)):Nat)=_);rw[I8,x9]
 have Jq:∀(t:List Nat) {k:Nat},k<t.length->ae .Pow (D.int 2) (ae .Sub (ae .Sub (D.int (t.length:Nat)) (D.int 1)) (D.int k))=.int (2^(t.length - 1 - k)):=λt k hk=>by
  refine(?_:D.int (2^((t.length:Int) - 1 - k).toNat)=_);have:((t.length:Int) - 1 - k).toNat=t.length - 1 - k:=by exact(A3 [.i (.E K0 (.s (.s bA K1) ew)) (.Q (.o Vc) (.s (.s bA K1) ew)),.i (.E (.s (.s bA K1) ew) K0) (.q Vc K0)] (.q Vc (.s jd Vb))) TJ TQ
  rw[this]
 have I5:∀t∈texts,D.list (map (λu=>ae .Mult ((jg way pre post).cZ (S "index") (aX sg) [idx (D.str (T t)) u]) (ae .Pow (D.int 2) (ae .Sub (ae .Sub (D.int (t.length:Nat)) (D.int 1)) u))) ((List.range t.length).map λ(k:Nat)=>D.int k))=.list (((List.range t.length).map λk=>(sg.idxOf (t.getD k 0):Int)*2^(t.length - 1 - k)).map D.int):=λt ht=>by
  rw[b7 (g:=λk=>D.int ((sg.idxOf (t.getD k 0):Int)*2^(t.length - 1 - k))) λk hk=>?_,VA]
  .rfl
  have e8:=Vm.mp hk;rw[Jl t ht e8,Jq t e8];rfl
 refine Go.ex (Go.lH (bL:=.list []) (cN:=.list []) C (by z_go) (by z_go) (by decide) (by z_go) (Fw.list Lw.nil (VO _)) (Fw.list Lw.nil (VO _)) (by z_go) (by z_go) λll lo=>?_);refine Go.assign C (d:=aZ (texts.map (rowOf sg))) (by z_go) (Ew.dq C ((True/\bB (aj texts))/\(∀u1∈(aN (aj texts)),True/\True/\(true=true->((((True/\True)/\1=1/\dO u1)/\((((((((True/\True)/\1=1/\dO u1)/\True)/\i6 false (S "range") [(bh u1)])/\(∀u3∈(kC (S "range") [(bh u1)]),True/\True/\(true=true->((True/\((True/\True/\ax u1 u3)/\True)/\(jg way pre post).eS (S "index") (aX sg) [(idx u1 u3)])/\(True/\((((True/\True)/\1=1/\dO u1)/\True/\bf .Sub (bh u1) (D.int 1))/\True/\bf .Sub (ae .Sub (bh u1) (D.int 1)) u3)/\bf .Pow (D.int 2) (ae .Sub (ae .Sub (bh u1) (D.int 1)) u3))/\bf .Mult ((jg way pre post).cZ (S "index") (aX sg) [(idx u1 u3)]) (ae .Pow (D.int 2) (ae .Sub (ae .Sub (bh u1) (D.int 1)) u3)))))/\length (map (λu4=>(ae .Mult ((jg way pre post).cZ (S "index") (aX sg) [(idx u1 u4)]) (ae .Pow (D.int 2) (ae .Sub (ae .Sub (bh u1) (D.int 1)) u4)))) (kC (S "range") [(bh u1)]))<=sizeLine)/\True)/\1=1/\sH (D.list (map (λu2=>(ae .Mult ((jg way pre post).cZ (S "index") (aX sg) [(idx u1 u2)]) (ae .Pow (D.int 2) (ae .Sub (ae .Sub (bh u1) (D.int 1)) u2)))) (kC (S "range") [(bh u1)]))))/\(True/\True)))/\3<=sizeLine)))/\length (map (λu5=>(D.list [(bh u5),(si (D.list (map (λu6=>(ae .Mult ((jg way pre post).cZ (S "index") (aX sg) [(idx u5 u6)]) (ae .Pow (D.int 2) (ae .Sub (ae .Sub (bh u5) (D.int 1)) u6)))) (kC (S "range") [(bh u5)])))),u5])) (aN (aj texts)))<=sizeLine) (D.list (map (λu7=>(D.list [(bh u7),(si (D.list (map (λu8=>(ae .Mult ((jg way pre post).cZ (S "index") (aX sg) [(idx u7 u8)]) (ae .Pow (D.int 2) (ae .Sub (ae .Sub (bh u7) (D.int 1)) u8)))) (kC (S "range") [(bh u7)])))),u7])) (aN (aj texts)))) ?_ ?_) (by z_go) ?_
 .rw[Ji];refine⟨⟨Wa,Wa⟩,aq (xs:=texts) (enc:=λt=>D.str (T t)) λt ht=>?_,?_⟩
  .have hl:=ok.len t ht;rw[hlen,Al];refine⟨Wa,Wa,λ_=>?_⟩
   walk_at "c"
   .refine(?_:(T t).length<2^62);rw[cJ];exact TV ‹_› (by decide)
   .refine(?_:(T t).length<2^62);rw[cJ];exact TV ‹_› (by decide)
   .refine(?_:Builtin.Range.small 0 ((t.length:Nat):Int) 1=true);exact small_one (TY _) (TY _) (TY _) ((A1 [.e Va (.c 60)] (.L bA Ck)) hl)
   .refine aq (xs:=List.range t.length) (enc:=λ(k:Nat)=>D.int k) λk hk=>?_;have e8:=Vm.mp hk;rw[Jq t e8,Jl t ht e8];refine⟨Wa,Wa,λ_=>?_⟩
    walk_at "r"
    .exact(oF t e8 (Vz ‹_› (by decide))).1
    .rw[(oF t e8 (Vz ‹_› (by decide))).2];refine⟨λd hd=>?_,?_,?_⟩
     .obtain⟨c,_,rfl⟩:=VB.mp hd;exact⟨_,rfl⟩
     .rw[I8];exact VB.mpr ⟨_,ok.chr t ht _ (by rw[Su,SK e8];exact UH e8),rfl⟩
     rw[US];have:=ok.Oa;exact TV ‹_› (by decide)
    .refine(?_:(T t).length<2^62);rw[cJ];exact TV ‹_› (by decide)
    .exact trivial
    .exact trivial
    .refine⟨?_,?_,by decide⟩
     .refine(?_:(0:Int)<=(t.length:Int) - 1 - k);exact(A2 [.l Va Vb] (.E K0 (.s (.s ew K1) bA))) e8
     refine(?_:(t.length:Int) - 1 - k<=1000000);exact(A2 [.e Va (.c 60)] (.E (.s (.s bA K1) ew) (.c 1000000))) hl
    have hb:sg.idxOf (t.getD k 0)<=sg.length:=idxOf_le_length;have:=ok.Oa;exact IntMulOk.of_left (intBits_le_64 (TY _) ((A2 [.e Va Vb,.e Vb (.c 10)] (.L bA (.c 18446744073709551616))) hb this))
   .simp only[US,US,Uv];simp[sizeLine];exact Vz ‹_› (by decide)
   rw[I5 t ht];exact lI _ id
  simp[sizeLine];have:=ok.num;exact Vz ‹_› (Tc rfl)
 .rw[Ji];refine(V4 D.list (b7 (xs:=texts) (enc:=λt=>D.str (T t)) (g:=λt=>aP (rowOf sg t)) λt ht=>?_)).trans ?_
  .rw[hlen,Al,I5 t ht];refine(?_:D.list [_,D.int (((((List.range t.length).map λk=>(sg.idxOf (t.getD k 0):Int)*2^(t.length - 1 - k)).map D.int).map je).sum),_]=_);rw[rF];rfl
  delta aZ;rw[VA];rfl
 have Cj:(texts.map (rowOf sg)).length<=60:=by simpa using ok.num
 have IA:∀r∈texts.map (rowOf sg),∃t∈texts,r=rowOf sg t:=λr hr=>by refine ao (VB.mp hr) λt h1 h2=>?_;exact bH t h1 h2.symm
 have xo:bP way sg texts=if(bT way (texts.map (rowOf sg))).2=[]/\(bT way (texts.map (rowOf sg))).1.map (·.t)=(dI way (texts.map (rowOf sg))).map (·.t)then(bT way (texts.map (rowOf sg))).1.map (·.t)else[]:=rfl;generalize texts.map (rowOf sg)=R at Cj IA xo CQ zA⊢;refine Go.rm C (x:=S "odd") (l:=lo) (d:=.list []) rfl (by z_go) ?_;refine Go.for C R aP (λi ρ=>∃s7 s8 s9,ρ=[.val (aj texts),.val (aX sg),.val (cD way),.val (.int way),.own ll (aZ (bT way (R.take i)).1),.val (aa (bT way (R.take i)).2),.val (aZ R),s7,s8,s9]) (by z_go) (dj (q:=(True/\bB (aZ R))) (by z_go) ?_) (iG (b:=(aN (aZ R))) (by z_go) ?_) (λ_ _=>trivial) (Eu _ _ _ rfl) ?_ ?_
 .exact⟨Wa,Wa⟩
 .rfl
 .intro i row az hi bx;refine vU bx λs7 s8 s9 kD=>?_;clear bx;subst kD;have e9:bT way (R.take (i+1))=cY way (bT way (R.take i)) row:=by delta bT;simp only[Ug,hi,Ui];rfl
  have R4:i<=60:=by have:=(SF.mp hi).1;exact(A2 [.e Va (.c 60),.l Vb Va] (.e Vb (.c 60))) Cj this
  have yu:(bT way (R.take i)).1.length<=60:=Vz (oA way _) (by simp;exact(A2 [.e Va (.c 60)] (.e (.i Vb Va) (.c 60))) Cj);have yJ:(bT way (R.take i)).2.length<=60*60:=by
   refine Vz (Dc way _) ?_;have:(R.take i).length<=60:=by simp;exact(A2 [.e Va (.c 60)] (.e (.i Vb Va) (.c 60))) Cj
   exact Nat.mul_le_mul this this
  generalize bT way (R.take i)=Mb at e9 yu yJ⊢;obtain⟨line,odd⟩:=Mb;replace yu:line.length<=60:=yu;replace yJ:odd.length<=60*60:=yJ;dsimp only at e9⊢;have RD:∀one:Row,(jg way pre post).cZ (S "compare") (cD way) [aP one,aP row]=.int (aR way one row):=λone=>rfl;have I4:kC (S "zip") [D.list ((line.map (aR way · row)).map D.int),aZ line]=line.map λo=>D.tup [.int (aR way o row),aP o]:=by
   refine(?_:(uz ((line.map (aR way · row)).map D.int) (line.map aP)).map D.tup=_);have e:(line.map (aR way · row)).map D.int=line.map λo=>D.int (aR way o row):=by rw[VA];rfl
   delta uz;(refine Eq.substr e ?_;refine Eq.substr zip_map' ?_;refine V3 VA ?_;refine V3 VA ?_);rfl
  have EA:∀o:Row,(if ag .NotEq (idx (aP o) (D.int 0)) (idx (aP row) (D.int 0))=true then D.int 1 else if ag .NotEq (idx (aP o) (D.int 1)) (idx (aP row) (D.int 1))=true then sb (S "abs") [D.int way]else D.int 0)=.int (wantOf way o row):=λo=>by have e1:ag .NotEq (idx (aP o) (D.int 0)) (idx (aP row) (D.int 0))= !decide (o.n=row.n):=rfl;have e2:ag .NotEq (idx (aP o) (D.int 1)) (idx (aP row) (D.int 1))= !decide (o.v=row.v):=rfl;have e3:sb (S "abs") [D.int way]=.int (way.natAbs:Int):=rfl;(refine Eq.substr e1 ?_;refine Eq.substr e2 ?_;refine Eq.substr e3 ?_);delta wantOf;by_cases h1:o.n=row.n<;>by_cases h2:o.v=row.v<;>simp[h1,h2]
  refine Go.eV C (d:=.list ((line.map (aR way · row)).map D.int)) (by z_go) (bw.j7 (oj C.fr) (bw.dq C ((True/\bB (aZ line))/\(∀u1∈(aN (aZ line)),True/\True/\(true=true->(True/\(True/\(True/\True))/\(jg way pre post).eS (S "compare") (cD way) [u1,(aP row)])))/\length (map (λu2=>((jg way pre post).cZ (S "compare") (cD way) [u2,(aP row)])) (aN (aZ line)))<=sizeLine) (D.list (map (λu3=>((jg way pre post).cZ (S "compare") (cD way) [u3,(aP row)])) (aN (aZ line)))) ?_ ?_) (all_ints _)) (by z_go) ?_
  .refine⟨⟨Wa,Wa⟩,aq (xs:=line) (enc:=aP) λone h1=>?_,?_⟩
   .exact⟨Wa,Wa,λ_=>⟨Wa,⟨Wa,Wa,Wa⟩,rfl,rfl,one,row,rfl⟩⟩
   refine(?_:((line.map aP).map _).length<=sizeLine);simp[sizeLine];exact Vz ‹_› (by decide)
  .refine(V4 D.list (b7 (xs:=line) (enc:=aP) (g:=λone=>D.int (aR way one row)) λone h1=>rfl)).trans ?_;rw[VA];rfl
  refine Go.assign C (d:=aa (odd++g8 way line row)) (by z_go) ⟨Ev.bin (Ew.ev (d:=aa odd) (Ew.dq C (True) (aa odd) ?_ ?_)) (Ew.ev (d:=.list ((g8 way line row).map D.int)) (Ew.PI (Fw.comp (bw.j7 (oj C.fr) (bw.dq C (((True/\(True/\True))/\i6 true (S "zip") [(.list ((line.map (aR way · row)).map D.int)),(aZ line)])/\(∀u1∈(kC (S "zip") [(.list ((line.map (aR way · row)).map D.int)),(aZ line)]),i5 u1 2/\(((True/\True)/\nJ (S "abs") [(headD (aF u1) D.none)])/\(((True/\True/\ax (headD (tail (aF u1)) D.none) (D.int 0))/\(True/\True/\ax (aP row) (D.int 0))/\aV .NotEq (idx (headD (tail (aF u1)) D.none) (D.int 0)) (idx (aP row) (D.int 0)))/\((ag .NotEq (idx (headD (tail (aF u1)) D.none) (D.int 0)) (idx (aP row) (D.int 0)))=true->True)/\((ag .NotEq (idx (headD (tail (aF u1)) D.none) (D.int 0)) (idx (aP row) (D.int 0)))=false->(((True/\True/\ax (headD (tail (aF u1)) D.none) (D.int 1))/\(True/\True/\ax (aP row) (D.int 1))/\aV .NotEq (idx (headD (tail (aF u1)) D.none) (D.int 1)) (idx (aP row) (D.int 1)))/\((ag .NotEq (idx (headD (tail (aF u1)) D.none) (D.int 1)) (idx (aP row) (D.int 1)))=true->((True/\True)/\nJ (S "abs") [(.int way)]))/\((ag .NotEq (idx (headD (tail (aF u1)) D.none) (D.int 1)) (idx (aP row) (D.int 1)))=false->True))))/\aV .NotEq (sb (S "abs") [(headD (aF u1) D.none)]) (if(ag .NotEq (idx (headD (tail (aF u1)) D.none) (D.int 0)) (idx (aP row) (D.int 0)))=true then(D.int 1)else(if(ag .NotEq (idx (headD (tail (aF u1)) D.none) (D.int 1)) (idx (aP row) (D.int 1)))=true then(sb (S "abs") [(.int way)])else(D.int 0))))/\((ag .NotEq (sb (S "abs") [(headD (aF u1) D.none)]) (if(ag .NotEq (idx (headD (tail (aF u1)) D.none) (D.int 0)) (idx (aP row) (D.int 0)))=true then(D.int 1)else(if(ag .NotEq (idx (headD (tail (aF u1)) D.none) (D.int 1)) (idx (aP row) (D.int 1)))=true then(sb (S "abs") [(.int way)])else(D.int 0))))=true->True))/\length (map (λu2=>(D.int 1)) (filter (λu2=>(ag .NotEq (sb (S "abs") [(headD (aF u2) D.none)]) (if(ag .NotEq (idx (headD (tail (aF u2)) D.none) (D.int 0)) (idx (aP row) (D.int 0)))=true then(D.int 1)else(if(ag .NotEq (idx (headD (tail (aF u2)) D.none) (D.int 1)) (idx (aP row) (D.int 1)))=true then(sb (S "abs") [(.int way)])else(D.int 0))))) (kC (S "zip") [(.list ((line.map (aR way · row)).map D.int)),(aZ line)])))<=sizeLine) (D.list (map (λu3=>(D.int 1)) (filter (λu3=>(ag .NotEq (sb (S "abs") [(headD (aF u3) D.none)]) (if(ag .NotEq (idx (headD (tail (aF u3)) D.none) (D.int 0)) (idx (aP row) (D.int 0)))=true then(D.int 1)else(if(ag .NotEq (idx (headD (tail (aF u3)) D.none) (D.int 1)) (idx (aP row) (D.int 1)))=true then(sb (S "abs") [(.int way)])else(D.int 0))))) (kC (S "zip") [(.list ((line.map (aR way · row)).map D.int)),(aZ line)])))) ?_ ?_) (all_ints _))))) ?_⟩ (by z_go) ?_
  .trivial
  .rfl
  .rw[I4];refine⟨⟨⟨Wa,Wa,Wa⟩,rfl,Wa⟩,aq (xs:=line) (enc:=λo=>D.tup [.int (aR way o row),aP o]) λo ho=>?_,?_⟩
   ·(simp only[rj];rw[ri];refine Eq.substr (EA o) ?_);refine⟨rfl,?_,λ_=>trivial⟩
    walk_at "c"
    .exact trivial
    .exact gR o (by decide) (by decide)
    .exact gR row (by decide) (by decide)
    .exact trivial
    .exact λ_=>trivial
    .exact λ_=>⟨⟨⟨Wa,Wa,gR o (by decide) (by decide)⟩,⟨Wa,Wa,gR row (by decide) (by decide)⟩,Wa⟩,λ_=>⟨⟨Wa,Wa⟩,Wa⟩,λ_=>trivial⟩
    exact trivial
   rw[US];refine Vz (Td _ _) ?_;simp[sizeLine];exact Vz ‹_› (by decide)
  .rw[I4];delta g8;rw[VA,bX (xs:=line) (enc:=λo=>D.tup [.int (aR way o row),aP o]) (p:=λone=>decide (((aR way one row).natAbs:Int)≠wantOf way one row)) λo ho=>?_,VA]
   .rfl
   rw[rj,ri,EA o];refine(?_:(!decide (((aR way o row).natAbs:Int)=wantOf way o row))=_);rw[<-decide_not]
  .have h1:(g8 way line row).length<=line.length:=by delta g8;rw[US];exact Td _ _
   have e:aa (odd++g8 way line row)=.list (odd.map .int++(g8 way line row).map .int):=by delta aa;rw[UT]
   rw[e];exact uN (by simp[sizeLine];exact(A3 [.e Va (.c 60),.e Vb (.m 60 (.c 60)),.e Vc Va] (.e nF kF)) yu yJ h1)
  have hzero:ag .NotIn (D.int 0) (D.list ((line.map (aR way · row)).map D.int))=decide ((0:Int)∉line.map (aR way · row)):=gB _ _;refine Go.ite (c:=decide ((0:Int)∉line.map (aR way · row))) (Tw.dq C (True/\True/\aV .NotIn (D.int 0) (.list ((line.map (aR way · row)).map D.int))) (ag .NotIn (D.int 0) (.list ((line.map (aR way · row)).map D.int))) ?_ ?_) (λhc=>?_) λhc=>Go.nil (du.nil (Go.nil ?_))
  .walk_at "c"
   exact⟨rfl,bC _,VO _⟩
  .exact hzero
  .have m9:(0:Int)∉line.map (aR way · row):=by simpa using hc
   have Np:bh (D.list (map (λ_=>D.int 1) (filter (λu=>ag .Lt u (D.int 0)) ((line.map (aR way · row)).map D.int))))=.int (((line.map (aR way · row)).filter λa=>decide (a<0)).length:Nat):=by refine(?_:D.int (length _:Nat)=_);rw[US,bX (p:=λa=>decide (a<0)) λa ha=>rfl,US]
   have QC:((line.map (aR way · row)).filter λa=>decide (a<0)).length<=line.length:=by refine Vz (Td _ _) ?_;rw[US];exact VP _
   refine Go.insert (l:=ll) (ds:=line.map aP) (k:=((line.map (aR way · row)).filter λa=>decide (a<0)).length) (d:=aP row) rfl (by z_go) (by z_go) (by z_go) (Lw.cons (by z_go) (Ew.dq C (let bD:=.list ((line.map (aR way · row)).map D.int);(((True/\bB bD)/\(∀u2∈(aN bD),True/\(True/\True/\aV .Lt u2 (D.int 0))/\((ag .Lt u2 (D.int 0))=true->True))/\length (map (λu3=>(D.int 1)) (filter (λu3=>(ag .Lt u3 (D.int 0))) (aN bD)))<=sizeLine)/\True)/\1=1/\dO (D.list (map (λu1=>(D.int 1)) (filter (λu1=>(ag .Lt u1 (D.int 0))) (aN bD))))) (bh (D.list (map (λu4=>(D.int 1)) (filter (λu4=>(ag .Lt u4 (D.int 0))) (aN (.list ((line.map (aR way · row)).map D.int))))))) ?_ ?_) (Lw.cons (by z_go) (Ew.dq C (True) (aP row) ?_ ?_) Lw.nil)) (by simp[sizeLine];exact Vz ‹_› (by decide)) (by rw[US];exact QC) (by z_go) (Go.nil (du.nil (Go.nil ?_)))
   .refine⟨⟨⟨⟨Wa,Wa⟩,aq (xs:=line.map (aR way · row)) (enc:=D.int) λa ha=>⟨Wa,⟨Wa,Wa,Wa⟩,λ_=>trivial⟩,?_⟩,Wa⟩,rfl,?_⟩
    .rw[US];refine Vz (Td _ _) ?_;refine(?_:((line.map (aR way · row)).map D.int).length<=sizeLine);simp[sizeLine];exact Vz ‹_› (by decide)
    refine(?_:length (map _ _)<2^62);rw[US];refine TV (Td _ _) ?_;refine(?_:((line.map (aR way · row)).map D.int).length<2^62);simp;exact TV ‹_› (by decide)
   .exact Np
   .trivial
   .rfl
   refine⟨.val (aP row),.val (.list ((line.map (aR way · row)).map D.int)),s9,?_⟩;rw[e9];refine(?_:[_,_,_,_,Slot.own ll (D.list ((line.map aP).take _++aP row::(line.map aP).drop _)),_,_,_,_,_]=[_,_,_,_,Slot.own ll (aZ (eQ way line row)),_,_,_,_,_]);delta eQ aZ;simp only[if_neg m9,UT,Vt,map_take,map_drop];rfl
  have m9:(0:Int)∈line.map (aR way · row):=by simpa using hc
  refine⟨.val (aP row),.val (.list ((line.map (aR way · row)).map D.int)),s9,?_⟩;rw[e9];refine(?_:[_,_,_,_,Slot.own ll (aZ line),_,_,_,_,_]=[_,_,_,_,Slot.own ll (aZ (eQ way line row)),_,_,_,_,_]);delta eQ;rw[if_pos m9];rfl
 intro az bx;refine vU bx λs7 s8 s9 kD=>?_;clear bx;subst kD;rw[UA];have yu:(bT way R).1.length<=60:=Vz (oA way R) Cj;have Fm:∀r∈(bT way R).1,r∈R:=tv way R;generalize bT way R=Mb at xo yu Fm⊢;obtain⟨line,odd⟩:=Mb;replace yu:line.length<=60:=yu;replace Fm:∀r∈line,r∈R:=Fm;dsimp only at xo⊢;refine Go.rm C (x:=S "line") (l:=ll) (d:=aZ line) rfl (by z_go) ?_;have uE:∀r∈R,∀c∈r.t,c<1000:=λr hr c hc=>by (refine ao (IA r hr) λt ht aB=>?_;subst aB);exact ok.sgn c (ok.chr t ht c hc)
 have Qz:∀r∈dI way R,∀c∈r.t,c<1000:=λr hr c hc=>by have h1:r∈(cU R).map (turned way):=(TR _ _).mem_iff.mp hr;(refine ao (VB.mp h1) λq hq aB=>?_;clear h1;subst aB);exact uE q ((fk R q).mp hq) c hc
 have Mm:(dI way R).length<=60:=by have e:(dI way R).length=((cU R).map (turned way)).length:=(TR _ _).length_eq;rw[e,US];delta cU;rw[US];refine Vz (Td _ _) ?_;simpa using Cj
 have pg:D.list (map (λu=>D.list [idx ((aF u).tail.headD D.none) (D.int 0),ae .Mult (D.int way) (idx ((aF u).tail.headD D.none) (D.int 1)),idx ((aF u).tail.headD D.none) (D.int 2)]) (filter (λu=>ag .NotIn ((aF u).tail.headD D.none) (j6 (aZ R) none (some ((aF u).headD D.none)))) ((List.range R.length).map λk=>D.tup [.int (k:Nat),aP (R.getD k ⟨0,0,[]⟩)])))=pre:=by
  rw[<-CQ];refine(V4 D.list ((V4 _ (bX (p:=λk=>decide (R.getD k ⟨0,0,[]⟩∉R.take k)) λk hk=>?_)).trans (b7 (g:=λk=>aP (turned way (R.getD k ⟨0,0,[]⟩))) λk hk=>rfl))).trans ?_
  .simp only[rj,ri,Ea];exact vw _ _
  delta aZ cU;rw[VA,VA];rfl
 refine Go.assign C (d:=post) (by z_go) (Ew.dq C (((((True/\True)/\i6 true (S "enumerate") [(aZ R)])/\(∀u2∈(kC (S "enumerate") [(aZ R)]),i5 u2 2/\(True/\(True/\True/\True/\nH (aZ R) none (some (headD (aF u2) D.none)))/\aV .NotIn (headD (tail (aF u2)) D.none) (j6 (aZ R) none (some (headD (aF u2) D.none))))/\((ag .NotIn (headD (tail (aF u2)) D.none) (j6 (aZ R) none (some (headD (aF u2) D.none))))=true->(((True/\True/\ax (headD (tail (aF u2)) D.none) (D.int 0))/\((True/\(True/\True/\ax (headD (tail (aF u2)) D.none) (D.int 1))/\bf .Mult (.int way) (idx (headD (tail (aF u2)) D.none) (D.int 1)))/\((True/\True/\ax (headD (tail (aF u2)) D.none) (D.int 2))/\True)))/\3<=sizeLine)))/\length (map (λu3=>(D.list [(idx (headD (tail (aF u3)) D.none) (D.int 0)),(ae .Mult (.int way) (idx (headD (tail (aF u3)) D.none) (D.int 1))),(idx (headD (tail (aF u3)) D.none) (D.int 2))])) (filter (λu3=>(ag .NotIn (headD (tail (aF u3)) D.none) (j6 (aZ R) none (some (headD (aF u3) D.none))))) (kC (S "enumerate") [(aZ R)])))<=sizeLine)/\True)/\(jg way pre post).bJ (S "sorted") [(D.list (map (λu1=>(D.list [(idx (headD (tail (aF u1)) D.none) (D.int 0)),(ae .Mult (.int way) (idx (headD (tail (aF u1)) D.none) (D.int 1))),(idx (headD (tail (aF u1)) D.none) (D.int 2))])) (filter (λu1=>(ag .NotIn (headD (tail (aF u1)) D.none) (j6 (aZ R) none (some (headD (aF u1) D.none))))) (kC (S "enumerate") [(aZ R)]))))]) ((jg way pre post).call (S "sorted") [(D.list (map (λu4=>(D.list [(idx (headD (tail (aF u4)) D.none) (D.int 0)),(ae .Mult (.int way) (idx (headD (tail (aF u4)) D.none) (D.int 1))),(idx (headD (tail (aF u4)) D.none) (D.int 2))])) (filter (λu4=>(ag .NotIn (headD (tail (aF u4)) D.none) (j6 (aZ R) none (some (headD (aF u4) D.none))))) (kC (S "enumerate") [(aZ R)]))))]) ?_ ?_) (by z_go) ?_
 .rw[Hn,pg];refine⟨⟨⟨⟨⟨Wa,Wa⟩,rfl,Wa⟩,aq (xs:=List.range R.length) (enc:=λk=>D.tup [.int (k:Nat),aP (R.getD k ⟨0,0,[]⟩)]) λk hk=>?_,?_⟩,Wa⟩,rfl⟩
  .simp only[rj,ri,Ea];refine⟨rfl,⟨Wa,⟨Wa,Wa,Wa,?_,Wa,Wa⟩,oP (uE _ (getD_mem (Vm.mp hk))),xI (λr hr=>uE r (TC hr)),by show max 0 (max 0 (max 0 0))+1<=20;exact VC _⟩,λ_=>⟨⟨⟨Wa,Wa,gR _ (by decide) (by decide)⟩,⟨Wa,⟨Wa,Wa,gR _ (by decide) (by decide)⟩,?_⟩,⟨Wa,Wa,gR _ (by decide) (by decide)⟩,Wa⟩,by decide⟩⟩
   .refine(?_:(R.map aP).length<=sizeLine);simp[sizeLine];exact Vz ‹_› (Tc rfl)
   have:=ok.FA;exact IntMulOk.of_left (intBits_le_64 ((ar 1 2 [_] [_] [.e Va (.c 10),.i (.E Qa K0) (.Q bA (.g Qa))] (.L (.g (.c 18446744073709551616)) Qa)) this Sv) ((ar 1 2 [_] [_] [.e Va (.c 10),.i vP (.Q bA Qa)] (.L Qa (.c 18446744073709551616))) this Tv))
  rw[US];refine Vz (Td _ _) ?_;simp[sizeLine];exact Vz ‹_› (Tc rfl)
 .rfl
 refine Go.ret (d:=aj (bP way sg texts)) (Ew.dq C (((True/\(True/\0<=sizeLine)/\aV .Eq (aa odd) (D.list []))/\((ag .Eq (aa odd) (D.list []))=true->((((True/\bB (aZ line))/\(∀u1∈(aN (aZ line)),True/\True/\(true=true->(True/\True/\ax u1 (D.int 2))))/\length (map (λu2=>(idx u2 (D.int 2))) (aN (aZ line)))<=sizeLine)/\((True/\bB (post))/\(∀u3∈(aN (post)),True/\True/\(true=true->(True/\True/\ax u3 (D.int 2))))/\length (map (λu4=>(idx u4 (D.int 2))) (aN (post)))<=sizeLine)/\aV .Eq (D.list (map (λu5=>(idx u5 (D.int 2))) (aN (aZ line)))) (D.list (map (λu6=>(idx u6 (D.int 2))) (aN (post)))))/\((ag .Eq (D.list (map (λu7=>(idx u7 (D.int 2))) (aN (aZ line)))) (D.list (map (λu8=>(idx u8 (D.int 2))) (aN (post)))))=true->True))))/\(((ag .Eq (aa odd) (D.list []))&&((ag .Eq (D.list (map (λu9=>(idx u9 (D.int 2))) (aN (aZ line)))) (D.list (map (λyD=>(idx yD (D.int 2))) (aN (post)))))&&true))=true->((True/\bB (aZ line))/\(∀yr∈(aN (aZ line)),True/\True/\(true=true->(True/\True/\ax yr (D.int 2))))/\length (map (λBM=>(idx BM (D.int 2))) (aN (aZ line)))<=sizeLine))/\(((ag .Eq (aa odd) (D.list []))&&((ag .Eq (D.list (map (λwZ=>(idx wZ (D.int 2))) (aN (aZ line)))) (D.list (map (λDR=>(idx DR (D.int 2))) (aN (post)))))&&true))=false->(True/\0<=sizeLine))) (if((ag .Eq (aa odd) (D.list []))&&((ag .Eq (D.list (map (λHx=>(idx Hx (D.int 2))) (aN (aZ line)))) (D.list (map (λHw=>(idx Hw (D.int 2))) (aN (post)))))&&true))=true then(D.list (map (λHv=>(idx Hv (D.int 2))) (aN (aZ line))))else(D.list [])) ?_ ?_) rfl
 ·(refine Eq.substr (V7 zA) ?_;rw[nf,nf]);have f1:=oO (λr hr=>uE r (Fm r hr));have f2:=oO Qz;have o8:∀rs:List Row,∀u∈aN (aZ rs),True/\True/\(true=true->True/\True/\ax u (D.int 2)):=λrs=>aq (xs:=rs) (enc:=aP) λr hr=>⟨Wa,Wa,λ_=>⟨Wa,Wa,gR r (by decide) (by decide)⟩⟩;have hz:∀rs:List Row,rs.length<=60->(rs.map λr=>D.str (T r.t)).length<=sizeLine:=λrs h=>by simp[sizeLine];exact Vz ‹_› (by decide)
  refine⟨⟨⟨Wa,⟨Wa,by exact VO _⟩,bC _,rfl,?_⟩,λ_=>⟨⟨⟨⟨Wa,Wa⟩,o8 _,hz _ yu⟩,⟨⟨Wa,Wa⟩,o8 _,hz _ Mm⟩,f1,f2,?_⟩,λ_=>trivial⟩⟩,λ_=>⟨⟨Wa,Wa⟩,o8 _,hz _ yu⟩,λ_=>⟨Wa,by exact VO _⟩⟩
  .refine(?_:b5 _+1<=20);rw[eF];exact VC _
  refine(?_:b5 _+1<=20);rw[xC];exact VC _
 simp only[<-zA,nf,nf,wH,Bx,xo];have hw:aj (line.map (·.t))=D.list (line.map λr=>D.str (T r.t)):=by delta aj;rw[VA];rfl
 by_cases h1:odd=[]
 .by_cases h2:line.map (·.t)=(dI way R).map (·.t)
  ·(refine V3 (if_pos (by rw[Vk h1,Vk h2];rfl)) ?_;refine Eq.substr (if_pos ⟨h1,h2⟩) ?_;exact(V7 hw))
  rw[if_neg (by rw[U1 h2];simp),if_neg λq=>h2 q.2];rfl
 rw[if_neg (by rw[U1 h1];simp),if_neg λq=>h1 q.1];rfl
noncomputable def B0:List (List Nat×Int):=[([33],54),([33,61],28),([37],24),([37,61],40),([38],19),([38,61],41),([40],7),([41],8),([42],16),([42,42],35),([42,42,61],46),([42,61],38),([43],14),([43,61],36),([44],12),([45],15),([45,61],37),([45,62],51),([46],23),([46,46,46],52),([47],17),([47,47],47),([47,47,61],48),([47,61],39),([58],11),([58,61],53),([59],13),([60],20),([60,60],33),([60,60,61],44),([60,61],29),([61],22),([61,61],27),([62],21),([62,61],30),([62,62],34),([62,62,61],45),([64],49),([64,61],50),([91],9),([93],10),([94],32),([94,61],43),([123],25),([124],18),([124,61],42),([125],26),([126],31)]
noncomputable abbrev kE(kv:List Nat×Int):Str×D:=(T kv.1,.int kv.2)
noncomputable def F9:D:=.cF (B0.map kE)
noncomputable def tokOf(c:Nat):Int:=(look B0 [c]).getD (if c=97 then 255 else -256)
noncomputable def kI:jX:={fA with
 glob:=λx=>if x==S "EXACT_TOKEN_TYPES" then F9 else .none
 l6:=λx=>x=S "EXACT_TOKEN_TYPES"}
noncomputable def zO(G:Gd)(n:Nat):Prop:=∀(F:Fx) (ρ:RE) (k:Bool) (p:Pos),F.env.kindOf (S "EXACT_TOKEN_TYPES")=some .globalImplicit->Ev G F n ρ k (.Name (S "EXACT_TOKEN_TYPES") p) F9
def Dn(W:Wd G)(h:zO G n):i8 G n kI where
 w:=W
 glob:=λx hx F ρ k p hk hd=>by have:x=S "EXACT_TOKEN_TYPES":=hx;subst this;exact h F ρ k p hk
 call:=(ft W).call
 cZ:=(ft W).cZ
noncomputable def dd(kept:List (List Nat))(t:List Nat):List (List Nat):=if(0:Int)∈kept.map (dF · t)then kept else kept++[t]
noncomputable def gu(line:List (List Nat)):List (List Nat):=line.foldl dd []
noncomputable def wordsOf(sg:List Nat):List (List Nat):=[[]]++sg.map (λc=>[c])++sg.flatMap (λa=>sg.map λb=>[a,b])++sg.flatMap (λa=>sg.flatMap λb=>sg.map λc=>[a,b,c])
noncomputable def pairsOf(kept words led:List (List Nat)):List (List Nat×List Nat):=kept.flatMap λone=>((words++led).filter λt=>decide (one.length<=t.length)).map λt=>(one,t)
noncomputable def sD(d:Nat):Int:=[1, -1,3, -2].getD (d/8%4) 1
noncomputable def fo(d:Nat):List Int:=[((d/2^0%2:Nat):Int),((d/2^1%2:Nat):Int),((d/2^2%2:Nat):Int)]
noncomputable def cW(kept:List (List Nat))(w:List Nat):Bool:=decide ((0:Int)∈kept.map λone=>et (T one) (T w))
structure j9 where
 dr:List Nat
 k0:Nat
 k1:Nat
noncomputable def j9.c0(Z:j9):Nat:=fc Z.k0
noncomputable def j9.c1(Z:j9):Nat:=fc Z.k1
noncomputable def j9.a(Z:j9):Int:=numAt Z.k0
noncomputable def j9.b(Z:j9):Int:=numAt Z.k1
noncomputable def j9.x(Z:j9):Int:=258+((Z.dr.map λ(k:Nat)=>(k:Int)).sum)
noncomputable def j9.names(Z:j9):List Int:=[256,257,Z.x]
noncomputable def j9.rules(Z:j9):List fN:=iM [Z.a,Z.b] Z.names Z.dr
noncomputable def j9.sp(Z:j9):Sp:=[(Z.a,Z.c0),(Z.b,Z.c1)]
noncomputable def j9.sg(Z:j9):List Nat:=[Z.c0,Z.c1]
noncomputable def j9.P1(Z:j9):fV:=⟨256,Z.names,Z.rules,Z.sp,[]⟩
noncomputable def j9.P2(Z:j9):fV:=⟨256,Z.names,Z.rules,Z.sp,fo (Z.dr.getD 5 0)⟩
noncomputable def j9.way(Z:j9):Int:=sD (Z.dr.getD 5 0)
structure vg(P:fV)(out:List Out):Prop where
 cp:sZ P
 ex:∃(Good:eC->Prop) (N:Nat),Good (start P)/\(∀s,Good s->sY P s/\∀t∈br P s,Good t)/\(eI P (start P) N).length=N/\N<=100000/\out=wholeOf P (eI P (start P) N)
structure EX(Z:j9)(runs led:List Out):Prop where
 len:Z.dr.length=6
 spots:cR (Z.dr.getD 4 0)=[Z.k0,Z.k1]
 MW:tokOf Z.c0=Z.a
 MV:tokOf Z.c1=Z.b
 ne:Z.a≠Z.b
 RJ:Z.c0<1000
 RI:Z.c1<1000
 r1:vg Z.P1 runs
 r2:vg Z.P2 led
 line:jr Z.way Z.sg (runs.map Out.text)
 IM:runs.length<=1000
 xk:led.length<=1000
 IX:∀o∈led,o.text.length<=1000/\∀c∈o.text,c<1000
 v5:∀o∈runs++led,o.noted=o.due
 JX:bP Z.way Z.sg (runs.map Out.text)≠[]
 more:∀p∈pairsOf (gu (bP Z.way Z.sg (runs.map Out.text))) (wordsOf Z.sg) (led.map Out.text),dF p.1 p.2=et (T p.1) (T p.2)
 lead:led.map (λo=>cW (gu (bP Z.way Z.sg (runs.map Out.text))) o.text)=[true]
 x0:258<=Z.x
 rules:Z.rules.length<=100
 rights:∀r∈Z.rules,r.2.length<=100
 last:∀w∈wordsOf Z.sg,decide ((256:Int)∈kU (tableOf (wordsOf Z.sg) Z.rules Z.sp) w)=cW (gu (bP Z.way Z.sg (runs.map Out.text))) w
def me(os:List Out):D.list (map (λu=>(aF u).headD D.none) (aN (D.list (os.map outD))))=aj (os.map Out.text):=by refine(?_:D.list (map _ (os.map outD))=D.list ((os.map Out.text).map _));rw[VA,VA];rfl
noncomputable def mJ:List D->D
 |[.str x,.str y]=>.int (dF x.cps.toList y.cps.toList)
 |_=>.none
noncomputable def Kb:List D->D
 |[.str x,.str y]=>.int (et x y)
 |_=>.none
noncomputable def iB(ds:List D):Prop:=∃x y:List Nat,ds=[.str (T x),.str (T y)]/\x.length<2^20/\y.length<2^20
def vz(W:Wd G):i8 G (n+3) (dg (S "_law_more") mJ iB):=er W λds h=>by obtain⟨x,y,rfl,h1,h2⟩:=h;exact .fn (wN W x y h1 h2)
noncomputable def pairD(p:List Nat×List Nat):D:=.tup [.str (T p.1),.str (T p.2)]
def v8(l m:List Nat):T l++T m=T (l++m):=by refine(?_:(⟨l.toArray++m.toArray⟩:Str)=⟨(l++m).toArray⟩);congr 1;simp
def JQ(sg:List Nat):flatMap (λu=>map (λv=>ae .Add u v) (aN (aX sg))) (aN (aX sg))=(sg.flatMap λa=>sg.map λb=>[a,b]).map λw=>D.str (T w):=by refine(?_:flatMap _ (sg.map λc=>D.str (one c))=_);simp only[flatMap_map,map_flatMap];congr 1;funext a;refine(?_:map _ (sg.map λc=>D.str (one c))=_);simp only[VA,VA];exact TK λb _=>V4 D.str (v8 [a] [b])
def CV(sg:List Nat):flatMap (λu=>flatMap (λv=>map (λw=>ae .Add (ae .Add u v) w) (aN (aX sg))) (aN (aX sg))) (aN (aX sg))=(sg.flatMap λa=>sg.flatMap λb=>sg.map λc=>[a,b,c]).map λw=>D.str (T w):=by refine(?_:flatMap _ (sg.map λc=>D.str (one c))=_);rw[flatMap_map,map_flatMap];congr 1;funext a;refine(?_:flatMap _ (sg.map λc=>D.str (one c))=_);simp only[flatMap_map,map_flatMap];congr 1;funext b;refine(?_:map _ (sg.map λc=>D.str (one c))=_);simp only[VA,VA];refine TK λc _=>?_;refine(?_:D.str ((T [a]++T [b])++T [c])=D.str (T [a,b,c]));rw[v8,v8];rfl
def qQ(a b:List (List Nat)):ae .Add (aj a) (aj b)=aj (a++b):=by refine(?_:D.list (a.map _++b.map _)=D.list ((a++b).map _));rw[UT]
def C8(ks ws ls:List (List Nat)):flatMap (λu=>map (λv=>D.tup [u,v]) (filter (λv=>ag .LtE (bh u) (bh v)) (aN (aj (ws++ls))))) (aN (aj ks))=(pairsOf ks ws ls).map pairD:=by
 refine(?_:flatMap _ (ks.map λw=>D.str (T w))=_);delta pairsOf;simp only[flatMap_map,map_flatMap];congr 1;funext k;refine(?_:map _ (filter _ ((ws++ls).map λw=>D.str (T w)))=_);rw[bX (p:=λt=>decide (k.length<=t.length)) λt ht=>?_,VA,VA]
 .rfl
 refine(?_:decide (((T k).length:Int)<=(T t).length)=_);rw[cJ,cJ];exact UD.mpr (by exact VI)
def Bf(i:Int):(if tr (D.bool (ag .Is (dt.call (S "ISEOF") [D.int i]) (D.bool (ag .Eq (D.int i) (D.int 0)))))=true then if tr (D.bool (ag .Is (dt.call (S "ISTERMINAL") [D.int i]) (D.bool (ag .Lt (ae .FloorDiv (D.int i) (D.int 256)) (D.int 1)))))=true then D.bool (ag .Is (dt.call (S "ISNONTERMINAL") [D.int i]) (D.bool (ag .Gt (ae .FloorDiv (D.int i) (D.int 256)) (D.int 0))))else D.bool (ag .Is (dt.call (S "ISTERMINAL") [D.int i]) (D.bool (ag .Lt (ae .FloorDiv (D.int i) (D.int 256)) (D.int 1))))else D.bool (ag .Is (dt.call (S "ISEOF") [D.int i]) (D.bool (ag .Eq (D.int i) (D.int 0)))))=D.bool true:=by have e1:ag .Is (dt.call (S "ISEOF") [D.int i]) (D.bool (ag .Eq (D.int i) (D.int 0)))=(decide (i=0)==decide (i=0)):=rfl;have e2:ag .Is (dt.call (S "ISTERMINAL") [D.int i]) (D.bool (ag .Lt (ae .FloorDiv (D.int i) (D.int 256)) (D.int 1)))=(decide (i<256)==decide (i.fdiv 256<1)):=rfl;have e3:ag .Is (dt.call (S "ISNONTERMINAL") [D.int i]) (D.bool (ag .Gt (ae .FloorDiv (D.int i) (D.int 256)) (D.int 0)))=(decide (256<=i)==decide (0<i.fdiv 256)):=rfl;have f:i.fdiv 256=i/256:=SD _ (by decide);have g2:decide (i<256)=decide (i.fdiv 256<1):=UD.mpr (f▸(Int.ediv_lt_iff_lt_mul (b:=1) (show(0:Int)<256 by decide)).symm);have g3:decide (256<=i)=decide (0<i.fdiv 256):=UD.mpr (f▸(Int.le_ediv_iff_mul_le (a:=1) (show(0:Int)<256 by decide)).symm);simp only[e1,e2,e3,g2,g3];simp[show∀b,tr (D.bool b)=b from λ_=>rfl]
def fG(a b:Nat):∀t∈wordsOf [a,b],t.length<=3:=by intro t ht;simp only[wordsOf,Vt,VG,Um,flatMap_nil,UX,cons_append,nil_append,Vr,Uz,V5]at ht;rcases ht with rfl|rfl|rfl|rfl|rfl|rfl|rfl|rfl|rfl|rfl|rfl|rfl|rfl|rfl|rfl<;>exact Tc rfl
def qD:∀xs:List Int,(aa xs).pure=true:=by
 intro l';induction l' with
 |nil=>exact rfl
 |cons y' xs aU=>exact aU
theorem rL:∀c:Cs,(yM c).pure=true
 |[]=>rfl
 |(k,.n i)::c=>rL c
 |(k,.p a b)::c=>rL c
theorem rM:∀c:Cs,(yM c).flat=true
 |[]=>rfl
 |(k,.n i)::c=>rM c
 |(k,.p a b)::c=>rM c
theorem rN:∀c:Cs,b5 (c.map BP)<=3
 |[]=>VO _
 |(k,.n i)::c=>by refine(?_:max 1 (b5 (c.map BP))<=3);exact Nat.max_le.mpr ⟨by exact VC _,rN c⟩
 |(k,.p a b)::c=>by refine(?_:max 2 (b5 (c.map BP))<=3);exact Nat.max_le.mpr ⟨by exact Tc rfl,rN c⟩
def qK:∀l:List Du,(gq l).pure=true:=by
 intro l';induction l' with
 |nil=>exact rfl
 |cons d l aU=>exact by refine(?_:((yM d.cl).pure&&true&&kQ (l.map B1))=true);rw[rL,show kQ (l.map B1)=true from aU];rfl
def qL:∀l:List Du,(gq l).flat=true:=by
 intro l';induction l' with
 |nil=>exact rfl
 |cons d l aU=>exact by refine(?_:((yM d.cl).flat&&true&&dA (l.map B1))=true);rw[rM,show dA (l.map B1)=true from aU];rfl
def ye:∀l:List Du,b5 (l.map B1)<=5:=by
 intro l';induction l' with
 |nil=>exact VO _
 |cons d l aU=>exact by refine(?_:max (max 0 (max 1 (max (b5 (d.cl.map BP)+1) 0))+1) (b5 (l.map B1))<=5);have h1:=rN d.cl;have h2:=aU;exact(A2 [.e Va (.c 5),.e Vb K3] (.e (.j (.a (.j K0 (.j K1 (.j f9 K0))) K1) Va) (.c 5))) aU h1
def xR(h:p∈pairsOf ks ws ls):p.1∈ks/\p.2∈ws++ls:=by delta pairsOf at h;refine ao (UI.mp h) λk hk h=>?_;(refine ao (VB.mp h) λt ht aB=>?_;clear h;subst aB);exact⟨hk,(UW.mp ht).1⟩
def pairs_len(ks ws ls:List (List Nat)):(pairsOf ks ws ls).length<=ks.length*(ws.length+ls.length):=by
 delta pairsOf;induction ks with
 |nil=>exact VO _
 |cons k ks ih=>
  simp only[Um,TU,Ux,Nat.add_mul,Nat.one_mul,US];have h1:((ws++ls).filter λt=>decide (k.length<=t.length)).length<=ws.length+ls.length:=by rw[<-TU];exact Td _ _
  exact(A5 [.e Va Vb,.e Vc (.a Vd Ve)] (.e (.a Vc Va) (.a Vb (.a Vd Ve)))) ih h1
def vj:∀{ws:List (List Nat)},(∀w∈ws,∀c∈w,c<1000)->(aj ws).flat=true:=by
 intro l';induction l' with
 |nil=>exact @λ_=>rfl
 |cons w ws aU=>exact @λh=>by refine(?_:((D.str (T w)).flat&&dA (ws.map λw=>D.str (T w)))=true);have e:dA (ws.map λw=>D.str (T w))=true:=aU λq hq=>h q (.tail _ hq);rw[vf (h w (.head _)),e];rfl
def vk(ws:List (List Nat)):(aj ws).deep<=20:=by
 refine(?_:b5 (ws.map λw=>D.str (T w))+1<=20);have:b5 (ws.map λw=>D.str (T w))=0:=by
  induction ws with
  |nil=>rfl
  |cons w ws ih=>refine(?_:max 0 (b5 (ws.map λw=>D.str (T w)))=0);rw[ih];rfl
 exact(A1 [.q Va K0] (.e fJ (.c 20))) this
def oW:∀bs:List Bool,dA (bs.map .bool)=true:=by
 intro l';induction l' with
 |nil=>exact rfl
 |cons y' bs aU=>exact aU
def vI:∀bs:List Bool,b5 (bs.map .bool)=0:=by
 intro l';induction l' with
 |nil=>exact rfl
 |cons y' bs aU=>exact by refine(?_:max 0 (b5 (bs.map .bool))=0);rw[aU];rfl
def yl(bs:List Bool):ag .Eq (D.list (bs.map .bool)) (D.list (bs.map .bool))=true:=by
 refine(?_:qX (D.list (bs.map .bool)) (D.list (bs.map .bool))=true);rw[gK];refine(?_:PyData.eqvAll (m7 (bs.map .bool)) (m7 (bs.map .bool))=true);induction bs with
 |nil=>rfl
 |cons b bs ih=>refine(?_:(PyData.eqv (.bool b) (.bool b)&&PyData.eqvAll (m7 (bs.map .bool)) (m7 (bs.map .bool)))=true);rw[ih];induction b using Bool.casesOn<;>rfl
def tV:((List.range 15).all λi=>(List.range 4).all λa=>(List.range 4).all λb=> !(decide (a<=b)&&decide (b<=((wordsOf [0,1]).getD i []).length)&& !decide (b - a=((wordsOf [0,1]).getD i []).length))||decide (bY ((wordsOf [0,1]).getD i []) a b∈(wordsOf [0,1]).take i))=true:=by rfl
def qf(c0 c1:Nat):∀(i:Nat) (w:List Nat),(wordsOf [c0,c1])[i]? =some w->∀a b,a<=b->b<=w.length->b - a≠w.length->bY w a b∈(wordsOf [c0,c1]).take i:=by
 intro i w hi a b h1 h2 h3;have e:wordsOf [c0,c1]=(wordsOf [0,1]).map (map λk=>if k=0 then c0 else c1):=rfl;rw[e,Uc]at hi;(refine ao (SS.mp hi) λv hv aB=>?_;clear hi;subst aB);have cB:i<15:=(SF.mp hv).1;have hg:(wordsOf [0,1]).getD i []=v:=by rw[Su,hv];rfl
 rw[US]at h2 h3;have hs:v.length<=3:=fG 0 1 v (To hv);have:=UE.mp (UE.mp (UE.mp tV i (Vm.mpr cB)) a (Vm.mpr (by exact(A3 [.e Va Vb,.e Vb Vc,.e Vc K3] (.l Va K4)) h1 h2 hs))) b (Vm.mpr (by exact(A2 [.e Va Vb,.e Vb K3] (.l Va K4)) h2 hs));rw[hg,Vk h1,Vk h2,U1 h3]at this;replace this:bY v a b∈(wordsOf [0,1]).take i:=by simpa using this
 rw[e,<-map_take];refine VB.mpr ⟨_,this,?_⟩;delta bY;rw[map_take,map_drop]
noncomputable def cI:jX:=eP (λf=>f==S "_law_more"||f==S "_law_lacks") (λf ds=>if f==S "_law_more" then mJ ds else Kb ds) (λ_ ds=>iB ds)
def Bb(W:Wd G):i8 G (n+3) cI:=fh W λf ds hf h=>by
 obtain⟨x,y,rfl,h1,h2⟩:=h;by_cases hs:(f==S "_law_more")=true
 .have:f=S "_law_more":=by simpa using hs
  rw[if_pos hs];subst this;exact .fn (wN W x y h1 h2)
 have:f=S "_law_lacks":=by simp only[U0]at hf;exact VX.mp (hf.resolve_left hs)
 rw[if_neg hs];subst this;exact .fn (Bu W (T x) (T y) (by rw[cJ];exact h1))
noncomputable def kH:List Str:=[S "script",S "draws",S "signs",S "known",S "names",S "numbers",S "spelled",S "rules",S "runs",S "led",S "way",S "line",S "kept",S "text",S "words",S "pairs",S "judged",S "table"]
def Hh(W:Wd G)(hC:iq G){n:Nat}(hE:zO G (n+5))(hJ:∀way a b,jq G (n+4) (S "compare") (cD way) [aP a,aP b] (.int (aR way a b)))
 (hK:∀way,gV G (n+5) (S "TupleComp") [.list [.tup [.int 0,.int 1],.tup [.int 1,.int way]]] (cD way))
 (script:List Int)(hz:script.length<2^20)(Z:j9)(yy:drawsOf script=Z.dr.map λ(k:Nat)=>(k:Int))(runs led:List Out)(ok:EX Z runs led)
 (L l:Addr)(cd:Value)(aD:XS):Go G (fx jh.name jh.scope kH L l cd aD) (n+5) ([.val (aa script)]++replicate 17 .no) jh.body (λfl _=>fl=.ret (.bool true)):=by
 have C0:Cf G (n+5) fA jh.scope kH:=⟨by z_go,ft W⟩;have Cd:Cf G (n+5) (dg (S "_law_draws") (λ_=>bI Z.dr) (λds=>ds=[aa script])) jh.scope kH:=⟨by z_go,er W λds h=>by
  subst h;have e:bI Z.dr=aa (drawsOf script):=by rw[yy];delta bI aa;rw[VA];rfl
  rw[e];exact .fn (Bv W script hz)⟩
 refine Go.assign Cd (d:=bI Z.dr) (by z_go) (Ew.dq Cd ((True/\True)/\(dg (S "_law_draws") (λ_=>bI Z.dr) (λds=>ds=[aa script])).bJ (S "_law_draws") [(aa script)]) ((dg (S "_law_draws") (λ_=>bI Z.dr) (λds=>ds=[aa script])).call (S "_law_draws") [(aa script)]) ?_ ?_) (by z_go) ?_
 .walk_at "c"
  exact rfl
 .rfl
 have xe:=ok.len;have OU:=gv (xs:=Z.dr) (enc:=λ(k:Nat)=>D.int k) (i:=4) (j:=4) (x:=Z.dr.getD 4 0) rfl (by rw[Su,SK (by exact(A1 [.q Va (.c 6)] (.l K4 Va)) xe)];rfl) (by exact(A1 [.q Va (.c 6)] (.l Va o9)) xe);have MC:=gv (xs:=Z.dr) (enc:=λ(k:Nat)=>D.int k) (i:=5) (j:=5) (x:=Z.dr.getD 5 0) rfl (by rw[Su,SK (by exact(A1 [.q Va (.c 6)] (.l (.c 5) Va)) xe)];rfl) (by exact(A1 [.q Va (.c 6)] (.l Va o9)) xe);have ND:idx (bI Z.dr) (D.int 4)=.int (Z.dr.getD 4 0:Nat):=OU.2;have F0:idx (bI Z.dr) (D.int 5)=.int (Z.dr.getD 5 0:Nat):=MC.2;have Cs:Cf G (n+5) (dg (S "_law_signs") (λ_=>.tup [aX Z.sg,aa [Z.a,Z.b]]) (λds=>ds=[.int (Z.dr.getD 4 0:Nat)])) jh.scope kH:=⟨by z_go,er W λds h=>by subst h;have h:=Bs W (n:=n+4) (Z.dr.getD 4 0);rw[ok.spots]at h;exact .fn h⟩;refine Go.jM Cs (ds:=[aX Z.sg,aa [Z.a,Z.b]]) (by z_go) rfl (Ew.dq Cs (((True/\True/\ax (bI Z.dr) (D.int 4))/\True)/\(dg (S "_law_signs") (λ_=>.tup [aX Z.sg,aa [Z.a,Z.b]]) (λds=>ds=[.int (Z.dr.getD 4 0:Nat)])).bJ (S "_law_signs") [(idx (bI Z.dr) (D.int 4))]) ((dg (S "_law_signs") (λ_=>.tup [aX Z.sg,aa [Z.a,Z.b]]) (λds=>ds=[.int (Z.dr.getD 4 0:Nat)])).call (S "_law_signs") [(idx (bI Z.dr) (D.int 4))]) ?_ ?_) (by z_go) (by z_go) ?_
 .rw[ND]
  walk_at "c"
  .exact OU.1
  exact rfl
 .rfl
 refine Go.assign C0 (d:=aa Z.names) (by z_go) (Ew.dq C0 ((True/\(True/\((True/\((True/\True)/\1=1/\sH (bI Z.dr))/\bf .Add (D.int 258) (si (bI Z.dr)))/\True)))/\3<=sizeLine) (D.list [(D.int 256),(D.int 257),(ae .Add (D.int 258) (si (bI Z.dr)))]) ?_ ?_) (by z_go) ?_
 .walk_at "c"
  .exact lI Z.dr _
  exact trivial
 .refine(?_:D.list [_,_,D.int (258+(((Z.dr.map λ(k:Nat)=>D.int k).map je).sum))]=_);rw[VA];rfl
 have Ce:Cf G (n+5) kI jh.scope kH:=⟨by z_go,Dn W hE⟩;have y9:∀c:Nat,kI.cZ (S "get") (kI.glob (S "EXACT_TOKEN_TYPES")) [.str (one c),if ag .Eq (D.str (one c)) (D.str (S "a"))=true then D.int 255 else a9 (D.int 256)]=.int (tokOf c):=λc=>by
  have e:look (B0.map kE) (one c)=(look B0 [c]).map D.int:=tu (λw=>T w) (λ_ _ q=>qc q) D.int B0 [c];refine(?_:(look (B0.map kE) (one c)).getD _=_);rw[e];have e2:ag .Eq (D.str (one c)) (D.str (S "a"))=decide (c=97):=by refine(?_:decide (one c=S "a")=_);refine UD.mpr ⟨λq=>one_inj (b:=97) q,λq=>by rw[q];rfl⟩
  rw[e2];delta tokOf;by_cases hc:c=97
  ·(refine Eq.substr (Vk hc) ?_;refine Eq.substr (if_pos rfl) ?_;refine Eq.substr (if_pos hc) ?_)
   cases look B0 [c]<;>rfl
  (refine Eq.substr (U1 hc) ?_;refine Eq.substr (if_neg (by decide)) ?_;refine Eq.substr (if_neg hc) ?_)
  cases look B0 [c]<;>rfl
 refine Go.eV Ce (d:=aa [Z.a,Z.b]) (by z_go) (bw.dq Ce (let bD:=D.str (S "a");let ee:=S "EXACT_TOKEN_TYPES";let iY:=aN (aX Z.sg);let pf:=a9 (D.int 256);let yG:=kI.glob ee;(True/\bB (aX Z.sg))/\(∀u1∈iY,True/\True/\(true=true->((kI.l6 ee)/\(True/\(((True/\True/\aV .Eq u1 bD)/\((ag .Eq u1 bD)=true->True)/\((ag .Eq u1 bD)=false->(True/\dz (D.int 256))))/\True))/\kI.eS (S "get") yG [u1,(if(ag .Eq u1 bD)=true then(D.int 255)else pf)])))/\length (map (λu2=>(kI.cZ (S "get") yG [u2,(if(ag .Eq u2 bD)=true then(D.int 255)else pf)])) iY)<=sizeLine) (D.list (map (λu3=>(kI.cZ (S "get") (kI.glob (S "EXACT_TOKEN_TYPES")) [u3,(if(ag .Eq u3 (D.str (S "a")))=true then(D.int 255)else(a9 (D.int 256)))])) (aN (aX Z.sg)))) ?_ ?_) (by z_go) ?_
 .refine⟨⟨Wa,Wa⟩,aq (xs:=Z.sg) (enc:=λc=>D.str (one c)) λc hc=>?_,?_⟩
  .exact⟨Wa,Wa,λ_=>⟨rfl,⟨Wa,⟨⟨Wa,Wa,Wa⟩,λ_=>trivial,λ_=>⟨Wa,Wa⟩⟩,Wa⟩,Wa⟩⟩
  refine(?_:([D.str (one Z.c0),D.str (one Z.c1)].map _).length<=sizeLine);exact Tc rfl
 .have e0:=y9 Z.c0;have e1:=y9 Z.c1;rw[ok.MW]at e0;rw[ok.MV]at e1;refine V3 (b:=D.list [kI.cZ (S "get") (kI.glob (S "EXACT_TOKEN_TYPES")) [.str (one Z.c0),if ag .Eq (D.str (one Z.c0)) (D.str (S "a"))=true then D.int 255 else a9 (D.int 256)],kI.cZ (S "get") (kI.glob (S "EXACT_TOKEN_TYPES")) [.str (one Z.c1),if ag .Eq (D.str (one Z.c1)) (D.str (S "a"))=true then D.int 255 else a9 (D.int 256)]]) rfl ?_;rw[e0,e1];rfl
 refine Go.assign C0 (d:=gj Z.sp) (by z_go) (Ew.dq C0 (let bD:=aa [Z.a,Z.b];let ee:=idx bD (D.int 0);let iY:=idx bD (D.int 1);((True/\True/\ax bD (D.int 0))/\dz ee/\(True/\True/\ax (aX Z.sg) (D.int 0))/\((True/\True/\ax bD (D.int 1))/\dz iY/\(True/\True/\ax (aX Z.sg) (D.int 1))/\True))/\Nodup ([je ee,je iY]:List Int)) (D.aG [(je (idx (aa [Z.a,Z.b]) (D.int 0)),(idx (aX Z.sg) (D.int 0))),(je (idx (aa [Z.a,Z.b]) (D.int 1)),(idx (aX Z.sg) (D.int 1)))]) ?_ ?_) (by z_go) ?_
 .have o0:ax (aa [Z.a,Z.b]) (D.int 0):=⟨by show -(2:Int)<=0;decide,by show(0:Int)<2;decide,by show 2<2^40;decide⟩;have o1:ax (aa [Z.a,Z.b]) (D.int 1):=⟨by show -(2:Int)<=1;decide,by show(1:Int)<2;decide,by show 2<2^40;decide⟩;have p0:ax (aX Z.sg) (D.int 0):=⟨by show -(2:Int)<=0;decide,by show(0:Int)<2;decide,by show 2<2^40;decide⟩;have p1:ax (aX Z.sg) (D.int 1):=⟨by show -(2:Int)<=1;decide,by show(1:Int)<2;decide,by show 2<2^40;decide⟩;refine⟨⟨⟨Wa,Wa,o0⟩,Wa,⟨Wa,Wa,p0⟩,⟨Wa,Wa,o1⟩,Wa,⟨Wa,Wa,p1⟩,Wa⟩,?_⟩;refine(?_:[Z.a,Z.b].Nodup);simp[ok.ne]
 .rfl
 have Cr:Cf G (n+5) (dg (S "_law_rules") (λ_=>aY Z.rules) (λds=>ds=[bI Z.dr,aa [Z.a,Z.b],aa Z.names])) jh.scope kH:=⟨by z_go,er W λds h=>by subst h;exact .fn (Bt W Z.dr Z.a Z.b 256 257 Z.x xe)⟩;refine Go.assign Cr (d:=aY Z.rules) (by z_go) (Ew.dq Cr ((True/\(True/\(True/\True)))/\(dg (S "_law_rules") (λ_=>aY Z.rules) (λds=>ds=[bI Z.dr,aa [Z.a,Z.b],aa Z.names])).bJ (S "_law_rules") [(bI Z.dr),(aa [Z.a,Z.b]),(aa Z.names)]) ((dg (S "_law_rules") (λ_=>aY Z.rules) (λds=>ds=[bI Z.dr,aa [Z.a,Z.b],aa Z.names])).call (S "_law_rules") [(bI Z.dr),(aa [Z.a,Z.b]),(aa Z.names)]) ?_ ?_) (by z_go) ?_
 .walk_at "c"
  exact rfl
 .rfl
 have Cu:Cf G (n+5) (dg (S "_law_runs") (λ_=>.list (runs.map outD)) (λds=>ds=[aa Z.names,aY Z.rules,gj Z.sp,aa []])) jh.scope kH:=⟨by z_go,er W λds h=>by subst h;obtain⟨cp,Good,N,g1,g2,g3,g4,g5⟩:=ok.r1;rw[g5];exact .fn (wM W hC (n:=n+1) Z.P1 cp Good g1 g2 N g3 g4)⟩;refine Go.assign Cu (d:=.list (runs.map outD)) (by z_go) (Ew.dq Cu ((True/\(True/\(True/\((True/\0<=sizeLine)/\True))))/\(dg (S "_law_runs") (λ_=>.list (runs.map outD)) (λds=>ds=[aa Z.names,aY Z.rules,gj Z.sp,aa []])).bJ (S "_law_runs") [(aa Z.names),(aY Z.rules),(gj Z.sp),(D.list [])]) ((dg (S "_law_runs") (λ_=>.list (runs.map outD)) (λds=>ds=[aa Z.names,aY Z.rules,gj Z.sp,aa []])).call (S "_law_runs") [(aa Z.names),(aY Z.rules),(gj Z.sp),(D.list [])]) ?_ ?_) (by z_go) ?_
 .walk_at "z"
  exact rfl
 .rfl
 have yI:kC (S "range") [D.int 3]=[0,1,2].map λ(k:Nat)=>D.int k:=rfl;have xM:i6 false (S "range") [D.int 3]:=rfl;have BU:map (λu=>ae .Mod (ae .FloorDiv (D.int (Z.dr.getD 5 0:Nat)) (ae .Pow (D.int 2) u)) (D.int 2)) ([0,1,2].map λ(k:Nat)=>D.int k)=(fo (Z.dr.getD 5 0)).map D.int:=by
  generalize Z.dr.getD 5 0=d;revert d;refine nz ?_;intro d;delta fo;have e:∀k:Nat,ae .Mod (ae .FloorDiv (D.int (d:Nat)) (ae .Pow (D.int 2) (D.int (k:Nat)))) (D.int 2)=.int ((d/2^k%2:Nat):Int):=λk=>by
   refine(?_:D.int (((d:Int).fdiv (2^((k:Int)).toNat)).fmod 2)=_);simp only[Ut,pX,sI];have:((2^k:Nat):Int)=2^k:=by induction k with
    |zero=>rfl
    |succ k ih=>simp only[Nat.pow_succ,Int.pow_succ,natCast_mul,ih];rfl
   rw[this];rfl
  simp only[Vt,VG];simp only[e 0,e 1,e 2]
 have Oo:ax (D.tup [D.int 1,a9 (D.int 1),D.int 3,a9 (D.int 2)]) (ae .Mod (ae .FloorDiv (D.int (Z.dr.getD 5 0:Nat)) (D.int 8)) (D.int 4))/\idx (D.tup [D.int 1,a9 (D.int 1),D.int 3,a9 (D.int 2)]) (ae .Mod (ae .FloorDiv (D.int (Z.dr.getD 5 0:Nat)) (D.int 8)) (D.int 4))=.int Z.way:=by
  delta j9.way sD;generalize Z.dr.getD 5 0=d;revert d;refine nz ?_;intro d;have e:ae .Mod (ae .FloorDiv (D.int (d:Nat)) (D.int 8)) (D.int 4)=.int ((d/8%4:Nat):Int):=by refine(?_:D.int (((d:Int).fdiv 8).fmod 4)=_);rw[pX,sI];try rfl
  rw[e];have cB:d/8%4<4:=VZ _ (by exact VC _);exact wG (xs:=([1, -1,3, -2]:List Int)) (enc:=D.int) rfl (by rw[Su,SK (by trivial)];rfl) (by decide)
 have Cv:Cf G (n+5) (dg (S "_law_runs") (λ_=>.list (led.map outD)) (λds=>ds=[aa Z.names,aY Z.rules,gj Z.sp,aa (fo (Z.dr.getD 5 0))])) jh.scope kH:=⟨by z_go,er W λds h=>by subst h;obtain⟨cp,Good,N,g1,g2,g3,g4,g5⟩:=ok.r2;rw[g5];exact .fn (wM W hC (n:=n+1) Z.P2 cp Good g1 g2 N g3 g4)⟩;refine Go.assign Cv (d:=.list (led.map outD)) (by z_go) (Ew.dq Cv (let bD:=idx (bI Z.dr) (D.int 5);let ee:=kC (S "range") [(D.int 3)];let iY:=S "_law_runs";(True/\(True/\(True/\((((True/\True)/\i6 false (S "range") [(D.int 3)])/\(∀u2∈ee,True/\True/\(true=true->(((True/\True/\ax (bI Z.dr) (D.int 5))/\(True/\True/\bf .Pow (D.int 2) u2)/\bf .FloorDiv bD (ae .Pow (D.int 2) u2))/\True/\bf .Mod (ae .FloorDiv bD (ae .Pow (D.int 2) u2)) (D.int 2))))/\length (map (λu3=>(ae .Mod (ae .FloorDiv bD (ae .Pow (D.int 2) u3)) (D.int 2))) ee)<=sizeLine)/\True))))/\(dg iY (λ_=>.list (led.map outD)) (λds=>ds=[aa Z.names,aY Z.rules,gj Z.sp,aa (fo (Z.dr.getD 5 0))])).bJ iY [(aa Z.names),(aY Z.rules),(gj Z.sp),(D.list (map (λu1=>(ae .Mod (ae .FloorDiv bD (ae .Pow (D.int 2) u1)) (D.int 2))) ee))]) ((dg (S "_law_runs") (λ_=>.list (led.map outD)) (λds=>ds=[aa Z.names,aY Z.rules,gj Z.sp,aa (fo (Z.dr.getD 5 0))])).call (S "_law_runs") [(aa Z.names),(aY Z.rules),(gj Z.sp),(D.list (map (λu4=>(ae .Mod (ae .FloorDiv (idx (bI Z.dr) (D.int 5)) (ae .Pow (D.int 2) u4)) (D.int 2))) (kC (S "range") [(D.int 3)])))]) ?_ ?_) (by z_go) ?_
 ·(refine Eq.substr F0 ?_;refine Eq.substr yI ?_);refine⟨⟨Wa,Wa,Wa,⟨⟨⟨Wa,Wa⟩,xM⟩,aq (xs:=[0,1,2]) (enc:=λ(k:Nat)=>D.int k) λk hk=>?_,by exact Tc rfl⟩,Wa⟩,?_⟩
  .have Mx:k<3:=by simp at hk;exact(A1 [.o (.q Va K0) (.o (.q Va K1) (.q Va K2))] (.l Va K3)) hk
   have hp:(2:Int)^k≠0:=by
    have:k=0\/k=1\/k=2:=by exact(A1 [.l Va K3] (.o (.q Va K0) (.o (.q Va K1) (.q Va K2)))) Mx
    rcases this with rfl|rfl|rfl<;>decide
   have QA:((2:Int)^k).natAbs<2^64:=by
    have:k=0\/k=1\/k=2:=by exact(A1 [.l Va K3] (.o (.q Va K0) (.o (.q Va K1) (.q Va K2)))) Mx
    rcases this with rfl|rfl|rfl<;>exact Tc rfl
   have e:ae .Pow (D.int 2) (D.int (k:Nat))=.int (2^k):=by refine(?_:D.int (2^((k:Int)).toNat)=_);simp only[Ut]
   rw[e];exact⟨Wa,Wa,λ_=>⟨⟨⟨Wa,Wa,MC.1⟩,⟨Wa,Wa,by exact TY _,by exact(A1 [.l Va K3] (.E bA (.c 1000000))) Mx,by decide⟩,hp,gb _ _ hp QA⟩,Wa,by show(2:Int)≠0;decide⟩⟩
  refine(?_:[_,_,_,D.list _]=_);rw[BU];rfl
 .rfl
 refine Go.assign C0 (d:=.int Z.way) (by z_go) (Ew.dq C0 (((True/\((True/\dz (D.int 1))/\(True/\((True/\dz (D.int 2))/\True))))/\4<=sizeLine)/\(((True/\True/\ax (bI Z.dr) (D.int 5))/\True/\bf .FloorDiv (idx (bI Z.dr) (D.int 5)) (D.int 8))/\True/\bf .Mod (ae .FloorDiv (idx (bI Z.dr) (D.int 5)) (D.int 8)) (D.int 4))/\ax (D.tup [(D.int 1),(a9 (D.int 1)),(D.int 3),(a9 (D.int 2))]) (ae .Mod (ae .FloorDiv (idx (bI Z.dr) (D.int 5)) (D.int 8)) (D.int 4))) (idx (D.tup [(D.int 1),(a9 (D.int 1)),(D.int 3),(a9 (D.int 2))]) (ae .Mod (ae .FloorDiv (idx (bI Z.dr) (D.int 5)) (D.int 8)) (D.int 4))) ?_ ?_) (by z_go) ?_
 .rw[F0];refine⟨⟨⟨Wa,⟨Wa,Wa⟩,Wa,⟨Wa,Wa⟩,Wa⟩,by decide⟩,⟨⟨⟨Wa,Wa,MC.1⟩,Wa,by show(8:Int)≠0;decide,gb _ _ (by decide) (by decide)⟩,Wa,by show(4:Int)≠0;decide⟩,?_⟩;exact Oo.1
 .rw[F0];exact Oo.2
 have Rf:=hJ Z.way;have Cl:Cf G (n+5) (eP (λf=>f==S "TupleComp"||f==S "_law_line") (λf _=>if f==S "TupleComp" then cD Z.way else aj (bP Z.way Z.sg (runs.map Out.text))) (λf ds=>if f==S "TupleComp" then ds=[.list [.tup [.int 0,.int 1],.tup [.int 1,.int Z.way]]]else ds=[aj (runs.map Out.text),aX Z.sg,cD Z.way,.int Z.way])) jh.scope kH:=⟨by z_go,fh W λf ds hf yK=>by
  by_cases hs:(f==S "TupleComp")=true
  .have:f=S "TupleComp":=by simpa using hs
   rw[if_pos hs]at yK⊢;subst this yK;exact hK Z.way
  .have:f=S "_law_line":=by rw[U0]at hf;exact VX.mp (hf.resolve_left hs)
   rw[if_neg hs]at yK⊢;subst this yK;exact .fn (DD W Z.way Z.sg (runs.map Out.text) ok.line Rf)⟩
 refine Go.assign Cl (d:=aj (bP Z.way Z.sg (runs.map Out.text))) (by z_go) (Ew.dq Cl ((((True/\bB (.list (runs.map outD)))/\(∀u2∈(aN (.list (runs.map outD))),i5 u2 3/\True/\(true=true->True))/\length (map (λu3=>(headD (aF u3) D.none)) (aN (.list (runs.map outD))))<=sizeLine)/\(True/\(((((((True/\(True/\True))/\2<=sizeLine)/\(((True/\(True/\True))/\2<=sizeLine)/\True))/\2<=sizeLine)/\True)/\(eP (λf=>f==S "TupleComp"||f==S "_law_line") (λf _=>if f==S "TupleComp" then cD Z.way else aj (bP Z.way Z.sg (runs.map Out.text))) (λf ds=>if f==S "TupleComp" then ds=[.list [.tup [.int 0,.int 1],.tup [.int 1,.int Z.way]]]else ds=[aj (runs.map Out.text),aX Z.sg,cD Z.way,.int Z.way])).bJ (S "TupleComp") [(D.list [(D.tup [(D.int 0),(D.int 1)]),(D.tup [(D.int 1),(.int Z.way)])])])/\(True/\True))))/\(eP (λf=>f==S "TupleComp"||f==S "_law_line") (λf _=>if f==S "TupleComp" then cD Z.way else aj (bP Z.way Z.sg (runs.map Out.text))) (λf ds=>if f==S "TupleComp" then ds=[.list [.tup [.int 0,.int 1],.tup [.int 1,.int Z.way]]]else ds=[aj (runs.map Out.text),aX Z.sg,cD Z.way,.int Z.way])).bJ (S "_law_line") [(D.list (map (λu1=>(headD (aF u1) D.none)) (aN (.list (runs.map outD))))),(aX Z.sg),((eP (λf=>f==S "TupleComp"||f==S "_law_line") (λf _=>if f==S "TupleComp" then cD Z.way else aj (bP Z.way Z.sg (runs.map Out.text))) (λf ds=>if f==S "TupleComp" then ds=[.list [.tup [.int 0,.int 1],.tup [.int 1,.int Z.way]]]else ds=[aj (runs.map Out.text),aX Z.sg,cD Z.way,.int Z.way])).call (S "TupleComp") [(D.list [(D.tup [(D.int 0),(D.int 1)]),(D.tup [(D.int 1),(.int Z.way)])])]),(.int Z.way)]) ((eP (λf=>f==S "TupleComp"||f==S "_law_line") (λf _=>if f==S "TupleComp" then cD Z.way else aj (bP Z.way Z.sg (runs.map Out.text))) (λf ds=>if f==S "TupleComp" then ds=[.list [.tup [.int 0,.int 1],.tup [.int 1,.int Z.way]]]else ds=[aj (runs.map Out.text),aX Z.sg,cD Z.way,.int Z.way])).call (S "_law_line") [(D.list (map (λu4=>(headD (aF u4) D.none)) (aN (.list (runs.map outD))))),(aX Z.sg),((eP (λf=>f==S "TupleComp"||f==S "_law_line") (λf _=>if f==S "TupleComp" then cD Z.way else aj (bP Z.way Z.sg (runs.map Out.text))) (λf ds=>if f==S "TupleComp" then ds=[.list [.tup [.int 0,.int 1],.tup [.int 1,.int Z.way]]]else ds=[aj (runs.map Out.text),aX Z.sg,cD Z.way,.int Z.way])).call (S "TupleComp") [(D.list [(D.tup [(D.int 0),(D.int 1)]),(D.tup [(D.int 1),(.int Z.way)])])]),(.int Z.way)]) ?_ ?_) (by z_go) ?_
 .rw[me]
  walk_at "b"
  .exact trivial
  .exact aq (xs:=runs) (enc:=outD) λo ho=>⟨rfl,Wa,λ_=>trivial⟩
  .refine(?_:((runs.map outD).map _).length<=sizeLine);have:=ok.IM;simp[sizeLine];exact Vz ‹_› (by decide)
  .exact rfl
  exact rfl
 .rfl
 generalize dH:bP Z.way Z.sg (runs.map Out.text)=line;revert line;refine nz ?_;intro line;intro;refine Go.fw C0 (d:=aj []) (by z_go) (Fw.list Lw.nil (by exact VO _)) (by z_go) λlk=>?_;have Cm:Cf G (n+5) (dg (S "_law_more") mJ iB) jh.scope kH:=⟨by z_go,vz W⟩;have Fm:∀t∈line,t∈runs.map Out.text:=λt ht=>by
  rw[<-dH]at ht;delta bP at ht;split at ht
  .obtain⟨r,hr,rfl⟩:=VB.mp ht;(refine ao (VB.mp (tv _ _ r hr)) λq hq aB=>?_;subst aB);exact hq
  exact pL ht
 have yu:line.length<=60:=by
  rw[<-dH];delta bP;split
  ·rw[US];refine Vz (oA _ _) ?_;rw[US];exact ok.line.num
  exact VO _
 have cB:∀t∈line,t.length<=60:=λt ht=>ok.line.len t (Fm t ht);have QG:∀t∈line,∀c∈t,c<1000:=λt ht c hc=>ok.line.sgn c (ok.line.chr t (Fm t ht) c hc);have EJ:gu line=line.foldl dd []:=rfl;have OK:∀i,((line.take i).foldl dd []).length<=60/\∀t∈(line.take i).foldl dd [],t∈line:=λi=>by
  have:∀(ws ks:List (List Nat)),(ws.foldl dd ks).length<=ks.length+ws.length/\∀t∈ws.foldl dd ks,t∈ks\/t∈ws:=λws=>by
   induction ws with
   |nil=>intro ks;exact⟨by simp,λt h=>.inl h⟩
   |cons w ws ih=>
    intro ks;have h1:=ih (dd ks w);have h2:(dd ks w).length<=ks.length+1:=by delta dd;split<;>simp
    have h3:∀t∈dd ks w,t∈ks\/t=w:=λt ht=>by
     delta dd at ht;split at ht
     .exact .inl ht
     rcases UU.mp ht with q|q
     .exact .inl q
     exact .inr (by simpa using q)
    refine⟨by simp only[UY,Ux];lia,λt ht=>?_⟩;rcases h1.2 t ht with q|q
    .rcases h3 t q with q|q
     .exact .inl q
     exact .inr (q▸ .head _)
    exact .inr (.tail _ q)
  refine cu (this (line.take i) []) λh1 h2=>?_;refine⟨?_,λt ht=>TC ((h2 t ht).resolve_left (by simp))⟩;simp only[UC,U7]at h1;exact(A3 [.e Va (.c 60),.e Vb (.a K0 (.i Vc Va))] (.e Vb (.c 60))) yu h1
 refine Go.for C0 line (λw=>.str (T w)) (λi ρ=>∃kA,ρ=[.val (aa script),.val (bI Z.dr),.val (aX Z.sg),.val (aa [Z.a,Z.b]),.val (aa Z.names),.val (aa [Z.a,Z.b]),.val (gj Z.sp),.val (aY Z.rules),.val (.list (runs.map outD)),.val (.list (led.map outD)),.val (.int Z.way),.val (aj line),.own lk (aj ((line.take i).foldl dd [])),kA,.no,.no,.no,.no]) (by z_go) (dj (q:=(True/\bB (aj line))) (by z_go) ?_) (iG (b:=(aN (aj line))) (by z_go) ?_) (λ_ _=>trivial) ⟨_,rfl⟩ ?_ ?_
 .exact⟨Wa,Wa⟩
 .rfl
 .intro i t az hi bx;obtain⟨kA,rfl⟩:=bx;have e9:(line.take (i+1)).foldl dd []=dd ((line.take i).foldl dd []) t:=by simp only[Ug,hi,Ui];rfl
  have Qm:=To hi;refine cu (OK i) λyL rW=>?_;generalize(line.take i).foldl dd []=kept at e9 yL rW⊢;revert kept;refine nz ?_;intro kept;intro;intro;intro;have OC:D.list (map (λu=>(dg (S "_law_more") mJ iB).call (S "_law_more") [u,D.str (T t)]) (aN (aj kept)))=aa (kept.map (dF · t)):=by refine(?_:D.list (map _ (kept.map λw=>D.str (T w)))=_);rw[b7 (g:=λw=>D.int (dF w t)) λw hw=>rfl];delta aa;rw[VA];rfl
  refine Go.ite (c:=decide ((0:Int)∉kept.map (dF · t))) (Tw.Gh Cm (True/\((True/\bB (aj kept))/\(∀u1∈(aN (aj kept)),True/\True/\(true=true->((True/\(True/\True))/\(dg (S "_law_more") mJ iB).bJ (S "_law_more") [u1,(.str (T t))])))/\length (map (λu2=>((dg (S "_law_more") mJ iB).call (S "_law_more") [u2,(.str (T t))])) (aN (aj kept)))<=sizeLine)/\aV .NotIn (D.int 0) (D.list (map (λu3=>((dg (S "_law_more") mJ iB).call (S "_law_more") [u3,(.str (T t))])) (aN (aj kept))))) (ag .NotIn (D.int 0) (D.list (map (λu1=>((dg (S "_law_more") mJ iB).call (S "_law_more") [u1,(.str (T t))])) (aN (aj kept))))) ?_ ?_) (λhc=>?_) λhc=>Go.nil (du.nil (Go.nil ?_))
  .rw[OC];refine⟨Wa,⟨⟨Wa,Wa⟩,aq (xs:=kept) (enc:=λw=>D.str (T w)) λw hw=>⟨Wa,Wa,λ_=>⟨⟨Wa,Wa,Wa⟩,w,t,rfl,by have:=cB w (rW w hw);exact TV ‹_› (by decide),by have:=cB t Qm;exact TV ‹_› (by decide)⟩⟩,?_⟩,rfl,bC _,VO _⟩;refine(?_:((kept.map λw=>D.str (T w)).map _).length<=sizeLine);simp[sizeLine];exact Vz ‹_› (by decide)
  .rw[OC];exact gB _ _
  .have m9:(0:Int)∉kept.map (dF · t):=by simpa using hc
   refine Go.append (l:=lk) (ds:=kept.map λw=>D.str (T w)) (d:=.str (T t)) rfl (by z_go) (by z_go) (by z_go) (Ew.dq C0 (True) (.str (T t)) ?_ ?_) (by simp[sizeLine];exact Vz ‹_› (by decide)) (by z_go) (Go.nil (du.nil (Go.nil ⟨.val (.str (T t)),?_⟩)))
   .trivial
   .rfl
   rw[e9];delta dd;rw[if_neg m9];delta aj;rw[UT];rfl
  have m9:(0:Int)∈kept.map (dF · t):=by simpa using hc
  refine⟨.val (.str (T t)),?_⟩;rw[e9];delta dd;rw[if_pos m9];rfl
 intro az bx;obtain⟨kA,rfl⟩:=bx;(refine Eq.substr UA ?_;refine Eq.substr (V7 EJ) ?_);refine cu (OK line.length) λyL rW=>?_;rw[UA,<-EJ]at yL rW;refine Go.rm C0 (x:=S "kept") (l:=lk) (d:=aj (gu line)) rfl (by z_go) ?_;have Hc:=ok.v5;have EF:=ok.JX;have zB:=ok.more;have zE:=ok.lead;have zF:=ok.last;rw[dH]at EF zB zE zF;generalize gu line=kept at yL rW zB zE zF⊢;revert kept;refine nz ?_;intro kept;intro;intro;intro;intro;intro;have vN:∀t∈wordsOf Z.sg++led.map Out.text,t.length<=1000:=λt ht=>by
  rcases UU.mp ht with q|q
  .have:=fG Z.c0 Z.c1 t q;exact Vz ‹_› (by decide)
  (refine ao (VB.mp q) λo ho aB=>?_;clear q;subst aB);exact(ok.IX o ho).1
 have ig:(wordsOf Z.sg).length=15:=rfl;have Gn:=JQ Z.sg;have Gl:=CV Z.sg;refine Go.assign C0 (d:=aj (wordsOf Z.sg)) (by z_go) (Ew.dq C0 (let bD:=aN (aX Z.sg);let ee:=True/\bB (aX Z.sg);let iY:=ae .Add (D.list [(D.str ⟨#[]⟩)]) (aX Z.sg);((((True/\True)/\1<=sizeLine)/\True/\bf .Add (D.list [(D.str ⟨#[]⟩)]) (aX Z.sg))/\(ee/\(∀u1∈bD,True/\True/\(true=true->(ee/\(∀u2∈bD,True/\True/\(true=true->(True/\True/\bf .Add u1 u2))))))/\length (flatMap (λu3=>(map (λu4=>(ae .Add u3 u4)) bD)) bD)<=sizeLine)/\bf .Add iY (D.list (flatMap (λu5=>(map (λu6=>(ae .Add u5 u6)) bD)) bD)))/\(ee/\(∀u7∈bD,True/\True/\(true=true->(ee/\(∀u8∈bD,True/\True/\(true=true->(ee/\(∀u9∈bD,True/\True/\(true=true->((True/\True/\bf .Add u7 u8)/\True/\bf .Add (ae .Add u7 u8) u9)))))))))/\length (flatMap (λyD=>(flatMap (λyr=>(map (λBM=>(ae .Add (ae .Add yD yr) BM)) bD)) bD)) bD)<=sizeLine)/\bf .Add (ae .Add iY (D.list (flatMap (λwZ=>(map (λDR=>(ae .Add wZ DR)) bD)) bD))) (D.list (flatMap (λHx=>(flatMap (λHw=>(map (λHv=>(ae .Add (ae .Add Hx Hw) Hv)) bD)) bD)) bD))) (let bD:=aN (aX Z.sg);ae .Add (ae .Add (ae .Add (D.list [(D.str ⟨#[]⟩)]) (aX Z.sg)) (D.list (flatMap (λK8=>(map (λE4=>(ae .Add K8 E4)) bD)) bD))) (D.list (flatMap (λH0=>(flatMap (λHZ=>(map (λHY=>(ae .Add (ae .Add H0 HZ) HY)) bD)) bD)) bD))) ?_ ?_) (by z_go) ?_
 .have o8:∀(ws:List (List Nat)),ws.length<=100->(ws.map λw=>D.str (T w)).length<=sizeLine:=λws h=>by rw[US];simp[sizeLine];exact Vz ‹_› (by decide)
  refine⟨⟨⟨⟨⟨Wa,Wa⟩,by exact VC _⟩,Wa,by show 1+2<=sizeLine;decide⟩,⟨⟨Wa,Wa⟩,aq (xs:=Z.sg) (enc:=λc=>D.str (one c)) λa ha=>⟨Wa,Wa,λ_=>⟨⟨Wa,Wa⟩,aq (xs:=Z.sg) (enc:=λc=>D.str (one c)) λb hb=>⟨Wa,Wa,λ_=>⟨Wa,Wa,by show 1+1<=sizeLine;decide⟩⟩⟩⟩,by show 4<=sizeLine;decide⟩,by show 3+4<=sizeLine;decide⟩,⟨⟨Wa,Wa⟩,aq (xs:=Z.sg) (enc:=λc=>D.str (one c)) λa ha=>⟨Wa,Wa,λ_=>⟨⟨Wa,Wa⟩,aq (xs:=Z.sg) (enc:=λc=>D.str (one c)) λb hb=>⟨Wa,Wa,λ_=>⟨⟨Wa,Wa⟩,aq (xs:=Z.sg) (enc:=λc=>D.str (one c)) λc hc=>⟨Wa,Wa,λ_=>⟨⟨Wa,Wa,by show 1+1<=sizeLine;decide⟩,Wa,?_⟩⟩⟩⟩⟩⟩,by show 8<=sizeLine;decide⟩,by show 7+8<=sizeLine;decide⟩;rw[show ae .Add (D.str (one a)) (D.str (one b))=.str (T [a,b])from V4 D.str (v8 [a] [b])];refine(?_:(T [a,b]).length+1<=sizeLine);rw[cJ];refine(?_:2+1<=sizeLine);decide
 ·(refine Eq.substr Gn ?_;refine Eq.substr Gl ?_);delta wordsOf aj;simp only[UT,UT,UT,VA];rfl
 refine Go.eV C0 (d:=.list ((pairsOf kept (wordsOf Z.sg) (led.map Out.text)).map pairD)) (by z_go) (bw.dq C0 ((True/\bB (aj kept))/\(∀u1∈(aN (aj kept)),True/\True/\(true=true->(((True/\((True/\bB (.list (led.map outD)))/\(∀u3∈(aN (.list (led.map outD))),i5 u3 3/\True/\(true=true->True))/\length (map (λu4=>(headD (aF u4) D.none)) (aN (.list (led.map outD))))<=sizeLine)/\bf .Add (aj (wordsOf Z.sg)) (D.list (map (λu5=>(headD (aF u5) D.none)) (aN (.list (led.map outD))))))/\bB (ae .Add (aj (wordsOf Z.sg)) (D.list (map (λu6=>(headD (aF u6) D.none)) (aN (.list (led.map outD)))))))/\(∀u7∈(aN (ae .Add (aj (wordsOf Z.sg)) (D.list (map (λu2=>(headD (aF u2) D.none)) (aN (.list (led.map outD))))))),True/\(((True/\True)/\1=1/\dO u1)/\((True/\True)/\1=1/\dO u7)/\aV .LtE (bh u1) (bh u7))/\((ag .LtE (bh u1) (bh u7))=true->((True/\(True/\True))/\2<=sizeLine))))))/\length (flatMap (λu8=>(map (λyD=>(D.tup [u8,yD])) (filter (λyD=>(ag .LtE (bh u8) (bh yD))) (aN (ae .Add (aj (wordsOf Z.sg)) (D.list (map (λu9=>(headD (aF u9) D.none)) (aN (.list (led.map outD)))))))))) (aN (aj kept)))<=sizeLine) (D.list (flatMap (λyr=>(map (λwZ=>(D.tup [yr,wZ])) (filter (λwZ=>(ag .LtE (bh yr) (bh wZ))) (aN (ae .Add (aj (wordsOf Z.sg)) (D.list (map (λBM=>(headD (aF BM) D.none)) (aN (.list (led.map outD)))))))))) (aN (aj kept)))) ?_ ?_) (by z_go) ?_
 .rw[me,qQ];refine⟨⟨Wa,Wa⟩,aq (xs:=kept) (enc:=λw=>D.str (T w)) λone ho=>⟨Wa,Wa,λ_=>⟨⟨⟨Wa,⟨⟨Wa,Wa⟩,?_,?_⟩,?_⟩,Wa⟩,aq (xs:=wordsOf Z.sg++led.map Out.text) (enc:=λw=>D.str (T w)) λt ht=>⟨Wa,⟨⟨⟨Wa,Wa⟩,rfl,?_⟩,⟨⟨Wa,Wa⟩,rfl,?_⟩,Wa⟩,λ_=>⟨⟨Wa,Wa,Wa⟩,by decide⟩⟩⟩⟩,?_⟩
  .exact aq (xs:=led) (enc:=outD) λo ho=>⟨rfl,Wa,λ_=>trivial⟩
  .refine(?_:((led.map outD).map _).length<=sizeLine);have:=ok.xk;simp[sizeLine];exact Vz ‹_› (by decide)
  .refine(?_:((wordsOf Z.sg).map _).length+((led.map Out.text).map _).length<=sizeLine);have:=ok.xk;simp only[US,US,US,ig];simp[sizeLine];exact(A1 [.e Va pj] (.e (.a (.c 15) Va) kF)) this
  .refine(?_:(T one).length<2^62);have:=cB one (rW one ho);rw[cJ];exact TV ‹_› (by decide)
  .refine(?_:(T t).length<2^62);have:=vN t ht;rw[cJ];exact TV ‹_› (by decide)
  have:∀ks:List (List Nat),(flatMap (λu=>map (λv=>D.tup [u,v]) (filter (λv=>ag .LtE (bh u) (bh v)) (aN (aj (wordsOf Z.sg++led.map Out.text))))) (aN (aj ks))).length<=ks.length*1015:=λks=>by
   induction ks with
   |nil=>exact VO _
   |cons k ks ih=>
    refine(?_:(flatMap _ (D.str (T k)::aN (aj ks))).length<=_);simp only[Um,TU,Ux,Nat.add_mul,Nat.one_mul];have h1:(map (λv=>D.tup [D.str (T k),v]) (filter (λv=>ag .LtE (bh (D.str (T k))) (bh v)) (aN (aj (wordsOf Z.sg++led.map Out.text))))).length<=1015:=by rw[US];refine Vz (Td _ _) ?_;refine(?_:((wordsOf Z.sg++led.map Out.text).map _).length<=1015);have:=ok.xk;simp only[US,TU,US,ig];exact(A1 [.e Va pj] (.e (.a (.c 15) Va) (.c 1015))) this
    exact(A3 [.e Va (.r Vb 1015),.e Vc (.c 1015)] (.e (.a Vc Va) (.a (.r Vb 1015) (.c 1015)))) ih h1
  have h2:=this kept;refine Vz h2 ?_;refine(?_:kept.length*1015<=2^24);exact(A1 [.e Va (.c 60)] (.e (.r Va 1015) kF)) yL
 .rw[me,qQ];have:=C8 kept (wordsOf Z.sg) (led.map Out.text);exact V4 D.list this
 have Oc:ax (aa Z.names) (D.int 2):=⟨by show -(3:Int)<=2;decide,by show(2:Int)<3;decide,by show 3<2^40;decide⟩;have uu:idx (aa Z.names) (D.int 2)=.int Z.x:=rfl;have Ci:Cf G (n+5) dt jh.scope kH:=⟨by z_go,wB W⟩;refine Go.eV Ci (d:=.list [.bool true,.bool true,.bool true,.bool true,.bool true,.bool true,.bool true]) (by z_go) (bw.dq Ci ((((True/\((True/\dz (D.int 1))/\((True/\dz (D.int 256))/\(True/\(True/\((True/\True/\ax (aa Z.names) (D.int 2))/\(((True/\True/\ax (aa Z.names) (D.int 2))/\dz (idx (aa Z.names) (D.int 2)))/\True)))))))/\7<=sizeLine)/\bB (D.tup [(D.int 0),(a9 (D.int 1)),(a9 (D.int 256)),(D.int 255),(D.int 256),(idx (aa Z.names) (D.int 2)),(a9 (idx (aa Z.names) (D.int 2)))]))/\(∀u1∈(aN (D.tup [(D.int 0),(a9 (D.int 1)),(a9 (D.int 256)),(D.int 255),(D.int 256),(idx (aa Z.names) (D.int 2)),(a9 (idx (aa Z.names) (D.int 2)))])),True/\True/\(true=true->((((True/\True)/\dt.bJ (S "ISEOF") [u1])/\(True/\True/\aV .Eq u1 (D.int 0))/\aV .Is (dt.call (S "ISEOF") [u1]) (D.bool (ag .Eq u1 (D.int 0))))/\pn (D.bool (ag .Is (dt.call (S "ISEOF") [u1]) (D.bool (ag .Eq u1 (D.int 0)))))/\(tr (D.bool (ag .Is (dt.call (S "ISEOF") [u1]) (D.bool (ag .Eq u1 (D.int 0)))))=true->((((True/\True)/\dt.bJ (S "ISTERMINAL") [u1])/\((True/\True/\bf .FloorDiv u1 (D.int 256))/\True/\aV .Lt (ae .FloorDiv u1 (D.int 256)) (D.int 1))/\aV .Is (dt.call (S "ISTERMINAL") [u1]) (D.bool (ag .Lt (ae .FloorDiv u1 (D.int 256)) (D.int 1))))/\pn (D.bool (ag .Is (dt.call (S "ISTERMINAL") [u1]) (D.bool (ag .Lt (ae .FloorDiv u1 (D.int 256)) (D.int 1)))))/\(tr (D.bool (ag .Is (dt.call (S "ISTERMINAL") [u1]) (D.bool (ag .Lt (ae .FloorDiv u1 (D.int 256)) (D.int 1)))))=true->(((True/\True)/\dt.bJ (S "ISNONTERMINAL") [u1])/\((True/\True/\bf .FloorDiv u1 (D.int 256))/\True/\aV .Gt (ae .FloorDiv u1 (D.int 256)) (D.int 0))/\aV .Is (dt.call (S "ISNONTERMINAL") [u1]) (D.bool (ag .Gt (ae .FloorDiv u1 (D.int 256)) (D.int 0))))))))))/\length (map (λu2=>(if tr (D.bool (ag .Is (dt.call (S "ISEOF") [u2]) (D.bool (ag .Eq u2 (D.int 0)))))=true then(if tr (D.bool (ag .Is (dt.call (S "ISTERMINAL") [u2]) (D.bool (ag .Lt (ae .FloorDiv u2 (D.int 256)) (D.int 1)))))=true then(D.bool (ag .Is (dt.call (S "ISNONTERMINAL") [u2]) (D.bool (ag .Gt (ae .FloorDiv u2 (D.int 256)) (D.int 0)))))else(D.bool (ag .Is (dt.call (S "ISTERMINAL") [u2]) (D.bool (ag .Lt (ae .FloorDiv u2 (D.int 256)) (D.int 1))))))else(D.bool (ag .Is (dt.call (S "ISEOF") [u2]) (D.bool (ag .Eq u2 (D.int 0))))))) (aN (D.tup [(D.int 0),(a9 (D.int 1)),(a9 (D.int 256)),(D.int 255),(D.int 256),(idx (aa Z.names) (D.int 2)),(a9 (idx (aa Z.names) (D.int 2)))])))<=sizeLine) (D.list (map (λu3=>(if tr (D.bool (ag .Is (dt.call (S "ISEOF") [u3]) (D.bool (ag .Eq u3 (D.int 0)))))=true then(if tr (D.bool (ag .Is (dt.call (S "ISTERMINAL") [u3]) (D.bool (ag .Lt (ae .FloorDiv u3 (D.int 256)) (D.int 1)))))=true then(D.bool (ag .Is (dt.call (S "ISNONTERMINAL") [u3]) (D.bool (ag .Gt (ae .FloorDiv u3 (D.int 256)) (D.int 0)))))else(D.bool (ag .Is (dt.call (S "ISTERMINAL") [u3]) (D.bool (ag .Lt (ae .FloorDiv u3 (D.int 256)) (D.int 1))))))else(D.bool (ag .Is (dt.call (S "ISEOF") [u3]) (D.bool (ag .Eq u3 (D.int 0))))))) (aN (D.tup [(D.int 0),(a9 (D.int 1)),(a9 (D.int 256)),(D.int 255),(D.int 256),(idx (aa Z.names) (D.int 2)),(a9 (idx (aa Z.names) (D.int 2)))])))) ?_ ?_) (by z_go) ?_
 .refine Eq.substr uu ?_;refine⟨⟨⟨⟨Wa,⟨Wa,Wa⟩,⟨Wa,Wa⟩,Wa,Wa,⟨Wa,Wa,Oc⟩,⟨⟨Wa,Wa,Oc⟩,Wa⟩,Wa⟩,by decide⟩,Wa⟩,aq (xs:=[0, -1, -256,255,256,Z.x, -Z.x]) (enc:=D.int) λi hi=>⟨Wa,Wa,λ_=>?_⟩,by show 7<=sizeLine;decide⟩;have OT:bf .FloorDiv (D.int i) (D.int 256):=⟨by decide,gb _ _ (by decide) (by decide)⟩;exact⟨⟨⟨⟨Wa,Wa⟩,Wa⟩,⟨Wa,Wa,Wa⟩,Wa⟩,Wa,λ_=>⟨⟨⟨⟨Wa,Wa⟩,Wa⟩,⟨⟨Wa,Wa,OT⟩,Wa,Wa⟩,Wa⟩,Wa,λ_=>⟨⟨⟨Wa,Wa⟩,Wa⟩,⟨⟨Wa,Wa,OT⟩,Wa,Wa⟩,Wa⟩⟩⟩
 .rw[uu];refine(V4 D.list (b7 (xs:=[0, -1, -256,255,256,Z.x, -Z.x]) (enc:=D.int) (g:=λ_=>D.bool true) λi hi=>?_)).trans rfl;exact Bf i
 have Cx:Cf G (n+5) cI jh.scope kH:=⟨by z_go,Bb W⟩;have HK:∀w:List Nat,D.list (map (λu=>cI.call (S "_law_lacks") [u,D.str (T w)]) (aN (aj kept)))=aa (kept.map λone=>et (T one) (T w)):=λw=>by refine(?_:D.list (map _ (kept.map λk=>D.str (T k)))=_);rw[b7 (g:=λk=>D.int (et (T k) (T w))) λk hk=>rfl];delta aa;rw[VA];rfl
 have Jk:∀w:List Nat,ag .In (D.int 0) (aa (kept.map λone=>et (T one) (T w)))=cW kept w:=λw=>lj _ _;have wo:ae .Add (D.list (runs.map outD)) (D.list (led.map outD))=.list ((runs++led).map outD):=by refine(?_:D.list (runs.map outD++led.map outD)=_);rw[UT]
 have hA:filter (λu=>ag .NotEq (headD (aF u).tail D.none) (headD (aF u).tail.tail D.none)) (aN (D.list ((runs++led).map outD)))=[]:=by rw[S9];refine aq (xs:=runs++led) (enc:=outD) λo ho=>?_;refine(?_:¬(!qX (gq o.noted) (gq o.due))=true);rw[Hc o ho,gK,(jw _ _ (qK _) (qK _)).mpr rfl];decide
 have hB:ag .Eq (aj line) (D.list [])=false:=by
  induction line using List.casesOn with
  |nil=>exact absurd rfl EF
  |cons w ws=>rfl
 have Ri:ag .NotEq (aa [Z.a,Z.b]) (aa [Z.a,Z.b])=false:=by refine(?_:(!qX _ _)=false);rw[gK,(jw (aa [Z.a,Z.b]) (aa [Z.a,Z.b]) rfl rfl).mpr rfl];rfl
 have hF:ag .In (D.bool false) (D.list [.bool true,.bool true,.bool true,.bool true,.bool true,.bool true,.bool true])=false:=rfl;have O6:D.list (map (λu=>cI.call (S "_law_more") [headD (aF u) D.none,headD (aF u).tail D.none]) (aN (D.list ((pairsOf kept (wordsOf Z.sg) (led.map Out.text)).map pairD))))=aa ((pairsOf kept (wordsOf Z.sg) (led.map Out.text)).map λp=>dF p.1 p.2):=by refine(?_:D.list (map _ (map pairD _))=_);rw[b7 (g:=λp=>D.int (dF p.1 p.2)) λp hp=>rfl];delta aa;rw[VA];rfl
 have O5:D.list (map (λu=>cI.call (S "_law_lacks") [headD (aF u) D.none,headD (aF u).tail D.none]) (aN (D.list ((pairsOf kept (wordsOf Z.sg) (led.map Out.text)).map pairD))))=aa ((pairsOf kept (wordsOf Z.sg) (led.map Out.text)).map λp=>dF p.1 p.2):=by refine(?_:D.list (map _ (map pairD _))=_);rw[b7 (g:=λp=>D.int (dF p.1 p.2)) λp hp=>(V4 D.int (zB p hp)).symm];delta aa;rw[VA];rfl
 have Rh:∀xs:List Int,ag .NotEq (aa xs) (aa xs)=false:=λxs=>by refine(?_:(!qX _ _)=false);rw[gK,(jw (aa xs) (aa xs) (qD xs) (qD xs)).mpr rfl];rfl
 have hG:D.list (map (λu=>D.bool (ag .In (D.int 0) (D.list (map (λv=>cI.call (S "_law_lacks") [v,headD (aF u) D.none]) (aN (aj kept)))))) (aN (D.list (led.map outD))))=.list [.bool true]:=by
  have e:([.bool true]:List D)=(led.map λo=>cW kept o.text).map D.bool:=by rw[zE];rfl
  rw[e,VA];refine V4 D.list (b7 (xs:=led) (enc:=outD) (g:=D.bool∘λo=>cW kept o.text) λo ho=>?_);exact V4 D.bool ((V4 (ag .In (D.int 0)) (HK o.text)).trans (Jk o.text))
 have Mm:(pairsOf kept (wordsOf Z.sg) (led.map Out.text)).length<=sizeLine:=by have h1:=pairs_len kept (wordsOf Z.sg) (led.map Out.text);have h2:=ok.xk;rw[ig,US]at h1;refine Vz h1 ?_;refine Vz (Nat.mul_le_mul yL (show 15+led.length<=1015 by exact(A1 [.e Va pj] (.e (.a (.c 15) Va) (.c 1015))) h2)) ?_;decide
 refine Go.ite (c:=false) (Tw.dq Cx (((((True/\True/\bf .Add (.list (runs.map outD)) (.list (led.map outD)))/\bB (ae .Add (.list (runs.map outD)) (.list (led.map outD))))/\(∀E4∈(aN (ae .Add (.list (runs.map outD)) (.list (led.map outD)))),i5 E4 3/\(True/\True/\aV .NotEq (headD (tail (aF E4)) D.none) (headD (tail (tail (aF E4))) D.none))/\((ag .NotEq (headD (tail (aF E4)) D.none) (headD (tail (tail (aF E4))) D.none))=true->True))/\length (map (λH0=>(D.int 1)) (filter (λH0=>(ag .NotEq (headD (tail (aF H0)) D.none) (headD (tail (tail (aF H0))) D.none))) (aN (ae .Add (.list (runs.map outD)) (.list (led.map outD))))))<=sizeLine)/\(True/\0<=sizeLine)/\aV .NotEq (D.list (map (λHZ=>(D.int 1)) (filter (λHZ=>(ag .NotEq (headD (tail (aF HZ)) D.none) (headD (tail (tail (aF HZ))) D.none))) (aN (ae .Add (.list (runs.map outD)) (.list (led.map outD))))))) (D.list []))/\((ag .NotEq (D.list (map (λHY=>(D.int 1)) (filter (λHY=>(ag .NotEq (headD (tail (aF HY)) D.none) (headD (tail (tail (aF HY))) D.none))) (aN (ae .Add (.list (runs.map outD)) (.list (led.map outD))))))) (D.list []))=false->((True/\(True/\0<=sizeLine)/\aV .Eq (aj line) (D.list []))/\((ag .Eq (aj line) (D.list []))=false->((True/\True/\aV .NotEq (aa [Z.a,Z.b]) (aa [Z.a,Z.b]))/\((ag .NotEq (aa [Z.a,Z.b]) (aa [Z.a,Z.b]))=false->((True/\True/\aV .In (D.bool false) (.list [.bool true,.bool true,.bool true,.bool true,.bool true,.bool true,.bool true]))/\((ag .In (D.bool false) (.list [.bool true,.bool true,.bool true,.bool true,.bool true,.bool true,.bool true]))=false->((((True/\bB (.list ((pairsOf kept (wordsOf Z.sg) (led.map Out.text)).map pairD)))/\(∀yr∈(aN (.list ((pairsOf kept (wordsOf Z.sg) (led.map Out.text)).map pairD))),i5 yr 2/\True/\(true=true->((True/\(True/\True))/\cI.bJ (S "_law_more") [(headD (aF yr) D.none),(headD (tail (aF yr)) D.none)])))/\length (map (λBM=>(cI.call (S "_law_more") [(headD (aF BM) D.none),(headD (tail (aF BM)) D.none)])) (aN (.list ((pairsOf kept (wordsOf Z.sg) (led.map Out.text)).map pairD))))<=sizeLine)/\((True/\bB (.list ((pairsOf kept (wordsOf Z.sg) (led.map Out.text)).map pairD)))/\(∀wZ∈(aN (.list ((pairsOf kept (wordsOf Z.sg) (led.map Out.text)).map pairD))),i5 wZ 2/\True/\(true=true->((True/\(True/\True))/\cI.bJ (S "_law_lacks") [(headD (aF wZ) D.none),(headD (tail (aF wZ)) D.none)])))/\length (map (λDR=>(cI.call (S "_law_lacks") [(headD (aF DR) D.none),(headD (tail (aF DR)) D.none)])) (aN (.list ((pairsOf kept (wordsOf Z.sg) (led.map Out.text)).map pairD))))<=sizeLine)/\aV .NotEq (D.list (map (λHx=>(cI.call (S "_law_more") [(headD (aF Hx) D.none),(headD (tail (aF Hx)) D.none)])) (aN (.list ((pairsOf kept (wordsOf Z.sg) (led.map Out.text)).map pairD))))) (D.list (map (λHw=>(cI.call (S "_law_lacks") [(headD (aF Hw) D.none),(headD (tail (aF Hw)) D.none)])) (aN (.list ((pairsOf kept (wordsOf Z.sg) (led.map Out.text)).map pairD))))))/\((ag .NotEq (D.list (map (λHv=>(cI.call (S "_law_more") [(headD (aF Hv) D.none),(headD (tail (aF Hv)) D.none)])) (aN (.list ((pairsOf kept (wordsOf Z.sg) (led.map Out.text)).map pairD))))) (D.list (map (λK8=>(cI.call (S "_law_lacks") [(headD (aF K8) D.none),(headD (tail (aF K8)) D.none)])) (aN (.list ((pairsOf kept (wordsOf Z.sg) (led.map Out.text)).map pairD))))))=false->((((True/\bB (.list (led.map outD)))/\(∀u1∈(aN (.list (led.map outD))),i5 u1 3/\True/\(true=true->(True/\((True/\bB (aj kept))/\(∀u2∈(aN (aj kept)),True/\True/\(true=true->((True/\(True/\True))/\cI.bJ (S "_law_lacks") [u2,(headD (aF u1) D.none)])))/\length (map (λu3=>(cI.call (S "_law_lacks") [u3,(headD (aF u1) D.none)])) (aN (aj kept)))<=sizeLine)/\aV .In (D.int 0) (D.list (map (λu4=>(cI.call (S "_law_lacks") [u4,(headD (aF u1) D.none)])) (aN (aj kept)))))))/\length (map (λu5=>(D.bool (ag .In (D.int 0) (D.list (map (λu6=>(cI.call (S "_law_lacks") [u6,(headD (aF u5) D.none)])) (aN (aj kept))))))) (aN (.list (led.map outD))))<=sizeLine)/\((True/\True)/\1<=sizeLine)/\aV .NotEq (D.list (map (λu7=>(D.bool (ag .In (D.int 0) (D.list (map (λu8=>(cI.call (S "_law_lacks") [u8,(headD (aF u7) D.none)])) (aN (aj kept))))))) (aN (.list (led.map outD))))) (D.list [(D.bool true)]))/\((ag .NotEq (D.list (map (λu9=>(D.bool (ag .In (D.int 0) (D.list (map (λyD=>(cI.call (S "_law_lacks") [yD,(headD (aF u9) D.none)])) (aN (aj kept))))))) (aN (.list (led.map outD))))) (D.list [(D.bool true)]))=false->True)))))))))))) ((ag .NotEq (D.list (map (λLQ=>(D.int 1)) (filter (λLQ=>(ag .NotEq (headD (tail (aF LQ)) D.none) (headD (tail (tail (aF LQ))) D.none))) (aN (ae .Add (.list (runs.map outD)) (.list (led.map outD))))))) (D.list []))||((ag .Eq (aj line) (D.list []))||((ag .NotEq (aa [Z.a,Z.b]) (aa [Z.a,Z.b]))||((ag .In (D.bool false) (.list [.bool true,.bool true,.bool true,.bool true,.bool true,.bool true,.bool true]))||((ag .NotEq (D.list (map (λN8=>(cI.call (S "_law_more") [(headD (aF N8) D.none),(headD (tail (aF N8)) D.none)])) (aN (.list ((pairsOf kept (wordsOf Z.sg) (led.map Out.text)).map pairD))))) (D.list (map (λN7=>(cI.call (S "_law_lacks") [(headD (aF N7) D.none),(headD (tail (aF N7)) D.none)])) (aN (.list ((pairsOf kept (wordsOf Z.sg) (led.map Out.text)).map pairD))))))||((ag .NotEq (D.list (map (λPq=>(D.bool (ag .In (D.int 0) (D.list (map (λPp=>(cI.call (S "_law_lacks") [Pp,(headD (aF Pq) D.none)])) (aN (aj kept))))))) (aN (.list (led.map outD))))) (D.list [(D.bool true)]))||false)))))) ?_ ?_) (λhq=>by exact fR hq) λ_=>Go.nil (du.nil ?_)
 ·(refine Eq.substr wo ?_;refine Eq.substr hA ?_;refine Eq.substr hB ?_;refine Eq.substr O6 ?_;refine Eq.substr O5 ?_;refine Eq.substr hG ?_);have Oj:∀f:D->D,(map f (aN (D.list ((pairsOf kept (wordsOf Z.sg) (led.map Out.text)).map pairD)))).length<=sizeLine:=λf=>by refine(?_:((map pairD _).map f).length<=sizeLine);rw[US,US];exact Mm
  have sx:∀p∈pairsOf kept (wordsOf Z.sg) (led.map Out.text),iB [.str (T p.1),.str (T p.2)]:=λp hp=>by refine cu (xR hp) λh1 h2=>?_;exact⟨p.1,p.2,rfl,by have:=cB p.1 (rW _ h1);exact TV ‹_› (by decide),by have:=vN p.2 h2;exact TV ‹_› (by decide)⟩
  have QE:(aj line).flat=true:=vj QG;have QF:(aj line).deep<=20:=vk line;have Jm:∀xs:List Int,(aa xs).deep<=20:=λxs=>by refine(?_:b5 _+1<=20);rw[eF];exact VC _
  refine⟨⟨⟨⟨⟨Wa,Wa,?_⟩,Wa⟩,aq (xs:=runs++led) (enc:=outD) λo ho=>⟨rfl,⟨Wa,Wa,qL _,qL _,?_⟩,λ_=>trivial⟩,by exact VO _⟩,⟨Wa,by exact VO _⟩,rfl,rfl,by exact VC _⟩,
   λ_=>⟨⟨Wa,⟨Wa,by exact VO _⟩,QE,rfl,QF⟩,
   λ_=>⟨⟨Wa,Wa,bC _,bC _,Jm _⟩,
   λ_=>⟨⟨Wa,Wa,rfl,rfl,by exact VO _⟩,
   λ_=>⟨⟨⟨⟨Wa,Wa⟩,aq (enc:=pairD) λp hp=>⟨rfl,Wa,λ_=>⟨⟨Wa,Wa,Wa⟩,sx p hp⟩⟩,Oj _⟩,⟨⟨Wa,Wa⟩,aq (enc:=pairD) λp hp=>⟨rfl,Wa,λ_=>⟨⟨Wa,Wa,Wa⟩,sx p hp⟩⟩,Oj _⟩,bC _,bC _,Jm _⟩,
   λ_=>⟨⟨⟨⟨Wa,Wa⟩,aq (xs:=led) (enc:=outD) λo ho=>⟨rfl,Wa,λ_=>⟨Wa,⟨⟨Wa,Wa⟩,aq (xs:=kept) (enc:=λw=>D.str (T w)) λw hw=>⟨Wa,Wa,λ_=>⟨⟨Wa,Wa,Wa⟩,w,o.text,rfl,by have:=cB w (rW w hw);exact TV ‹_› (by decide),by have:=(ok.IX o ho).1;exact TV ‹_› (by decide)⟩⟩,?_⟩,?_⟩⟩,?_⟩,⟨⟨Wa,Wa⟩,by exact VC _⟩,rfl,rfl,by exact VC _⟩,λ_=>trivial⟩⟩⟩⟩⟩⟩
  .refine(?_:(runs.map outD).length+(led.map outD).length<=sizeLine);have h1:=ok.IM;have h2:=ok.xk;simp[sizeLine];exact(A2 [.e Va pj,.e Vb pj] (.e sd kF)) h1 h2
  .refine(?_:b5 _+1<=20);have:=ye o.noted;exact TV ‹_› (by decide)
  .refine(?_:((kept.map λw=>D.str (T w)).map _).length<=sizeLine);simp[sizeLine];exact Vz ‹_› (by decide)
  .have:=HK o.text;rw[show D.list (map (λu=>cI.call (S "_law_lacks") [u,headD (aF (outD o)) D.none]) (aN (aj kept)))=_ from this];exact⟨rfl,bC _,VO _⟩
  refine(?_:((led.map outD).map _).length<=sizeLine);have h2:=ok.xk;simp[sizeLine];exact Vz ‹_› (by decide)
 .simp only[wo,hA,hB,Ri,hF,O6,O5,Rh,hG];rfl
 have Ct:Cf G (n+5) (dg (S "_law_table") (λ_=>fL (tableOf (wordsOf Z.sg) Z.rules Z.sp)) (λds=>ds=[aj (wordsOf Z.sg),aY Z.rules,gj Z.sp])) jh.scope kH:=⟨by z_go,er W λds h=>by
  subst h;refine .fn (Bq W (wordsOf Z.sg) Z.rules Z.sp (by rw[ig];decide) (λw hw=>by have:=fG Z.c0 Z.c1 w hw;exact Vz ‹_› (by decide)) ok.rules ok.rights (by show 2<=100;decide) (λp hp=>?_) (qf Z.c0 Z.c1));have:p=(Z.a,Z.c0)\/p=(Z.b,Z.c1):=by simpa[j9.sp]using hp
  rcases this with rfl|rfl
  .refine(?_:look [(Z.a,Z.c0),(Z.b,Z.c1)] Z.a=some Z.c0);simp[look]
  .refine(?_:look [(Z.a,Z.c0),(Z.b,Z.c1)] Z.b=some Z.c1);simp[look,ok.ne]⟩
 refine Go.assign Ct (d:=fL (tableOf (wordsOf Z.sg) Z.rules Z.sp)) (by z_go) (Ew.dq Ct ((True/\(True/\(True/\True)))/\(dg (S "_law_table") (λ_=>fL (tableOf (wordsOf Z.sg) Z.rules Z.sp)) (λds=>ds=[aj (wordsOf Z.sg),aY Z.rules,gj Z.sp])).bJ (S "_law_table") [(aj (wordsOf Z.sg)),(aY Z.rules),(gj Z.sp)]) ((dg (S "_law_table") (λ_=>fL (tableOf (wordsOf Z.sg) Z.rules Z.sp)) (λds=>ds=[aj (wordsOf Z.sg),aY Z.rules,gj Z.sp])).call (S "_law_table") [(aj (wordsOf Z.sg)),(aY Z.rules),(gj Z.sp)]) ?_ ?_) (by z_go) ?_
 .walk_at "c"
  exact rfl
 .rfl
 have FO:∀w∈wordsOf Z.sg,(look (tableOf (wordsOf Z.sg) Z.rules Z.sp) w).isSome=true:=λw hw=>qi _ _ w (.inl hw);have hL:D.list (map (λu=>D.bool (ag .In (idx (aa Z.names) (D.int 0)) (idx (fL (tableOf (wordsOf Z.sg) Z.rules Z.sp)) u))) (aN (aj (wordsOf Z.sg))))=.list (((wordsOf Z.sg).map λw=>cW kept w).map D.bool):=by rw[VA];refine V4 D.list (b7 (xs:=wordsOf Z.sg) (enc:=λw=>D.str (T w)) (g:=D.bool∘λw=>cW kept w) λw hw=>?_);rw[(ju (FO w hw)).1];refine V4 D.bool ?_;exact(lj _ _).trans (zF w hw)
 have hR:D.list (map (λu=>D.bool (ag .In (D.int 0) (D.list (map (λv=>cI.call (S "_law_lacks") [v,u]) (aN (aj kept)))))) (aN (aj (wordsOf Z.sg))))=.list (((wordsOf Z.sg).map λw=>cW kept w).map D.bool):=by rw[VA];refine V4 D.list (b7 (xs:=wordsOf Z.sg) (enc:=λw=>D.str (T w)) (g:=D.bool∘λw=>cW kept w) λw hw=>?_);exact V4 D.bool ((V4 (ag .In (D.int 0)) (HK w)).trans (Jk w))
 refine Go.ret (d:=.bool true) (Ew.dq Cx (((True/\bB (aj (wordsOf Z.sg)))/\(∀u1∈(aN (aj (wordsOf Z.sg))),True/\True/\(true=true->((True/\True/\ax (aa Z.names) (D.int 0))/\(True/\True/\ax (fL (tableOf (wordsOf Z.sg) Z.rules Z.sp)) u1)/\aV .In (idx (aa Z.names) (D.int 0)) (idx (fL (tableOf (wordsOf Z.sg) Z.rules Z.sp)) u1))))/\length (map (λu2=>(D.bool (ag .In (idx (aa Z.names) (D.int 0)) (idx (fL (tableOf (wordsOf Z.sg) Z.rules Z.sp)) u2)))) (aN (aj (wordsOf Z.sg))))<=sizeLine)/\((True/\bB (aj (wordsOf Z.sg)))/\(∀u3∈(aN (aj (wordsOf Z.sg))),True/\True/\(true=true->(True/\((True/\bB (aj kept))/\(∀u4∈(aN (aj kept)),True/\True/\(true=true->((True/\(True/\True))/\cI.bJ (S "_law_lacks") [u4,u3])))/\length (map (λu5=>(cI.call (S "_law_lacks") [u5,u3])) (aN (aj kept)))<=sizeLine)/\aV .In (D.int 0) (D.list (map (λu6=>(cI.call (S "_law_lacks") [u6,u3])) (aN (aj kept)))))))/\length (map (λu7=>(D.bool (ag .In (D.int 0) (D.list (map (λu8=>(cI.call (S "_law_lacks") [u8,u7])) (aN (aj kept))))))) (aN (aj (wordsOf Z.sg))))<=sizeLine)/\aV .Eq (D.list (map (λu9=>(D.bool (ag .In (idx (aa Z.names) (D.int 0)) (idx (fL (tableOf (wordsOf Z.sg) Z.rules Z.sp)) u9)))) (aN (aj (wordsOf Z.sg))))) (D.list (map (λyD=>(D.bool (ag .In (D.int 0) (D.list (map (λyr=>(cI.call (S "_law_lacks") [yr,yD])) (aN (aj kept))))))) (aN (aj (wordsOf Z.sg)))))) (D.bool (ag .Eq (D.list (map (λBM=>(D.bool (ag .In (idx (aa Z.names) (D.int 0)) (idx (fL (tableOf (wordsOf Z.sg) Z.rules Z.sp)) BM)))) (aN (aj (wordsOf Z.sg))))) (D.list (map (λwZ=>(D.bool (ag .In (D.int 0) (D.list (map (λDR=>(cI.call (S "_law_lacks") [DR,wZ])) (aN (aj kept))))))) (aN (aj (wordsOf Z.sg))))))) ?_ ?_) rfl
 .rw[hR,hL];have hz:∀f:D->D,(map f (aN (aj (wordsOf Z.sg)))).length<=sizeLine:=λf=>by refine(?_:(((wordsOf Z.sg).map λw=>D.str (T w)).map f).length<=sizeLine);simp only[US,US,ig];decide
  have PF:ax (aa Z.names) (D.int 0):=⟨by show -(3:Int)<=0;decide,by show(0:Int)<3;decide,by show 3<2^40;decide⟩;refine⟨⟨⟨Wa,Wa⟩,aq (xs:=wordsOf Z.sg) (enc:=λw=>D.str (T w)) λw hw=>⟨Wa,Wa,λ_=>⟨⟨Wa,Wa,PF⟩,⟨Wa,Wa,(ju (FO w hw)).2⟩,?_⟩⟩,hz _⟩,⟨⟨Wa,Wa⟩,aq (xs:=wordsOf Z.sg) (enc:=λw=>D.str (T w)) λw hw=>⟨Wa,Wa,λ_=>⟨Wa,⟨⟨Wa,Wa⟩,aq (xs:=kept) (enc:=λw=>D.str (T w)) λk hk=>⟨Wa,Wa,λ_=>⟨⟨Wa,Wa,Wa⟩,k,w,rfl,by have:=cB k (rW k hk);exact TV ‹_› (by decide),by have:=fG Z.c0 Z.c1 w hw;exact TV ‹_› (by decide)⟩⟩,?_⟩,?_⟩⟩,hz _⟩,oW _,oW _,?_⟩
  .rw[(ju (FO w hw)).1];exact⟨rfl,bC _,VO _⟩
  .refine(?_:((kept.map λw=>D.str (T w)).map _).length<=sizeLine);simp[sizeLine];exact Vz ‹_› (by decide)
  .rw[show D.list (map (λu=>cI.call (S "_law_lacks") [u,D.str (T w)]) (aN (aj kept)))=_ from HK w];exact⟨rfl,bC _,VO _⟩
  refine(?_:b5 _+1<=20);rw[vI];exact VC _
 simp only[hR,hL,yl]
structure Co(G:Gd)(K:Frag)(fC:Addr):Prop where
 Oh:K.In G.h₀
 H5:∀a o,K.lookup a=some o->nv o
 ga:findIn K (.ref G.J) "__getattribute__"=some (some (.builtin "object.__getattribute__"))
 sT:findIn K (.ref G.J) "__getattr__"=some none
 cmp:findIn K (.ref G.J) "compare"=some (some (.ref fC))
 tC:typeIn K (.ref fC)=some (.type "function")
 keep:keepIn K (.ref fC)=true
 EN:∀(od:Obj) (u:Value),lookIn (Str.ofString "comp_select_list") od=some (some u)->findObj K G.J (some od) (Str.ofString "comp_select_list")=some (.value u)
section
variable{G:Gd}{n:Nat}{K:Frag}{fC:Addr}
def Co.at_(Y:Co G K fC)(T:Tb G h):K.In h:=λa o e=>T.base a o (Y.H5 a o e) (Y.Oh a o e)
def ns_obj{h:Heap}(x:h.Ns dx m):∃od,h.get? dx=some od/\∀name v,m name=some v->lookIn name od=some (some v):=by refine cQ x λo es ep e d k f=>?_;refine bH o e (λname v hv=>?_);have h1:=f name;rw[hv]at h1;delta lookIn;rw[d];dsimp only;delta nsFind at h1;delta findBy at h1;rw[<-Array.find?_toList]at h1;refine ao (SS.mp h1) λen h2 h3=>?_;(refine Eq.substr h2 ?_;simp only[<-h3])
def mY(Y:Co G K fC){A:Around}{E:Value->Shared->Prop}{s:Shared}{X:XS}(T:Tb G s.heap)(r:Rep G s.heap X (.judge d) v)(h:Q (.ref fC,[v]) s):
 wpAny (M G) A (getMethod v (S "compare") pl) Q E s:=by
 (refine lB (fy.mp r) λa dx aB hx QR hg fS=>?_;refine dw fS λm u D0 hu hc hr=>?_;subst aB);have KI:=Y.at_ T;refine ao (ns_obj D0) λod Mo _=>?_;have I:InstAt s.heap a (instObj G.J dx) G.J (some od):=⟨hg,rfl,rfl,Mo⟩;delta getMethod specialOf;refine VU (VU (I.type.here ((looks_findIn KI Y.ga).here ?_)));refine(?_:wpAny (M G) A (if(Manifest.canonical "object.__getattribute__" !="object.__getattribute__")=true then _ else _) Q E s);(refine Eq.substr (show(Manifest.canonical "object.__getattribute__" !="object.__getattribute__")=false by rfl) ?_;refine Eq.substr (if_neg Bool.false_ne_true) ?_);refine VU (VU (I.type.here ((looks_findIn KI Y.sT).here ?_)));refine VU (VU (I.type.here ((looks_findIn KI Y.cmp).here ?_)));refine VU ((looks_typeIn KI Y.tC).here ?_);refine VU (wpAny_loadPart hg ?_);dsimp only;refine VU (wpAny_nsGet D0 ?_);rw[show m (S "compare")=none from hc];exact VU (wpAny_rule (VV h))
def vy(Y:Co G K fC)(pl:PL G n (.judge d::d1::ds) (λvs=>call (.ref fC) vs) r):jq G n (S "compare") (.judge d) (d1::ds) r:=λF ρ k o es apos pos h1 h2 h3 h4 hl a b A s X R S=>by
 induction es using List.casesOn with
 |nil=>(exfalso;cases hl)
 |cons e rest=>
  have MN:rest.all noStar=true:=by rw[Vu,Uw]at h2;exact h2.2
  (simp only[arm_eval_Call];refine Eq.substr (gL h1) ?_);refine VU (ay (a A s X R S) (λov aw e1 r1=>?_));refine VU (Vy ?_);have Kv:methodCallForm ((e::rest).length+([]:List Keyword).length) (backTo pos (starEach (e::rest) F.env)) (backToKw pos (keywordEach [] F.env))=true:=ru h2 h4;have FT:methodCallPos true o F.env apos pos=pure pos:=by delta methodCallPos;exact if_pos ‹_›
  delta methodCall;refine Eq.substr Kv ?_;have S1:=S.ext e1;refine VU (Vx (mY Y S1.gs.tb r1 ?_));refine VU (wpAny_of_eq FT ?_);refine callWith_K (K:=K) (h₀:=aw.heap) (Y.at_ S1.gs.tb) Y.keep ?_ (cO h2) (dT MN).1;refine ay (b A aw X _ R S1) (λvs au e2 r2=>⟨Y.at_ (S1.ext e2).gs.tb,?_⟩);refine ay (pl A au _ (ov::vs) R (S1.ext e2).ph (a0 (e2.rep r1) r2)) (λv d7 e3 r3=>⟨(e1.trans e2).trans e3,r3⟩)
end
noncomputable def methsOf(p:Program):List (Str×Arguments×List Stmt×Scope):=p.main.body.flatMap λst=>match st with
 |.ClassDef _ _ _ body _ _ _ _ _ _ _=>body.filterMap λst=>match st with
  |.FunctionDef nm ps b _ _ _ sc _ _ _=>some (nm,ps,b,sc)
  |_=>none
 |_=>[]
set_option genInjectivity false in
structure Az(k:Nat) where
 name:Str
 params:Arguments
 body:List Stmt
 scope:Scope
 ok:(methsOf pw)[k]? =some (name,params,body,scope)
noncomputable def jY:Az 0:=⟨_,_,_,_,rfl⟩
noncomputable def pq:Az 1:=⟨_,_,_,_,rfl⟩
noncomputable def MethAt(G:Gd)(f:Addr)(params:Arguments)(body:List Stmt)(scope:Scope):Prop:=
 ∃nm qual doc pm code ct an o,G.h₀.get? f=some o/\o.data=.func (fnOf nm qual params body scope .none .none doc pm an code ct)/\G.h₀.CodeRec code qual/\∀c o,code=.ref c->G.h₀.get? c=some o->nv o
section
variable{G:Gd}{n:Nat}{K:Frag}{fC:Addr}{F:Fx}{ρ:RE}{k:Bool}
def Ev.x7(Y:Co G K fC)(hc:iD o=true)(ht:∀a b,letTemporaryGo o a b=pure ())(a:Ev G F n ρ k o (.judge (.list ds))):Ev G F n ρ k (.Attribute o (Str.ofString "comp_select_list") pos) (.list ds):=λA s X R S=>by (simp only[arm_eval_Attribute];refine Eq.substr (gL hc) ?_);refine VU (ay (a A s X R S) (λov aw e1 r1=>?_));obtain⟨b,dx,rfl,hx,QR,hg,m,u,D0,hu,R7,hr⟩:=fy.mp r1;have S1:=S.ext e1;have KI:=Y.at_ S1.gs.tb;refine ao (ns_obj D0) λod Mo Mu=>?_;have I:InstAt aw.heap b (instObj G.J dx) G.J (some od):=⟨hg,rfl,rfl,Mo⟩;(refine d4 (aA.mp hr) λl vs aB _=>?_;subst aB);refine VU (Vy (VU (Vx ?_)));refine get_value KI I Y.ga (Y.EN od _ (Mu _ _ hu)) rfl ?_;refine VU (wpAny_of_eq (ht _ _) (VV ?_));exact⟨e1.trans .toks,hr⟩
end
noncomputable def IH:List Str:=[S "self",S "left",S "right",S "index",S "direction",S "l",S "r"]
def GC{K:Frag}(W:Wd G)(Y:Co G K fC)(hm:MethAt G fC pq.params pq.body pq.scope)(way:Int)(a b:Row):PL G (n+1) [cD way,aP a,aP b] (λvs=>call (.ref fC) vs) (.int (aR way a b)):=by
 (refine dm hm λnm qual doc pm code ct fS=>?_;refine dw fS λan o ho hd xg m9=>?_);refine PL.G4 ho hd xg m9 IH (λL l aD=>?_) (λu v w=>rfl) (by decide) (by show 3<=7;exact Tc rfl) (by decide);have C:Cf G n fA pq.scope IH:=⟨by z_go,ft W⟩;refine Go.ex (Go.F7 C ([(0,1),(1,way)]:List (Int×Int)) (λp=>.tup [.int p.1,.int p.2]) (λi ρ=>(1<=i->a.n=b.n)/\(2<=i->a.v=b.v)/\∃s3 s4 s5 s6,ρ=[.val (cD way),.val (aP a),.val (aP b),s3,s4,s5,s6]) (by z_go) (by z_go) ?_ (λ_ _=>rfl) ⟨λh=>by exact(U5 _ ‹_›).elim,λh=>by exact(U5 _ ‹_›).elim,_,_,_,_,rfl⟩ ?_ ?_)
 .exact⟨ef.of (Ev.x7 Y rfl (λ_ _=>rfl) (Ew.ev (Ew.at C (k:=false) (by z_go) trivial rfl))) tl⟩
 .intro i p az hi bx;obtain⟨h1,h2,s3,s4,s5,s6,rfl⟩:=bx;have xm:∀(x y:Int) (q:Row),True:=λ_ _ _=>trivial;have KC:(i=0/\p=(0,1))\/(i=1/\p=(1,way)):=by
   match i,hi with
   |0,h=>exact .inl ⟨rfl,by simpa using h.symm⟩
   |1,h=>exact .inr ⟨rfl,by simpa using h.symm⟩
   |i+2,h=>trivial
  obtain⟨la,lb,rV,BW,Fo,cB,OO,heq⟩:∃la lb:Int,(0<=p.1/\p.1<3)/\idx (aP a) (.int p.1)=.int la/\idx (aP b) (.int p.1)=.int lb/\(la<lb->aR way a b= -p.2)/\(lb<la->aR way a b=p.2)/\(la=lb->(1<=i+1->a.n=b.n)/\(2<=i+1->a.v=b.v)):=by
   rcases KC with⟨rfl,rfl⟩|⟨rfl,rfl⟩
   .refine jP a.n b.n ⟨by decide,by decide⟩ rfl rfl (λh=>?_) (λh=>?_) (λh=>⟨λ_=>h,λh=>by exact(I2 [.e K2 (.a K0 K1)] vQ) h⟩)
    .unfold aR;rw[if_pos h]
    unfold aR;(refine V3 (if_neg (by exact Int.lt_asymm h)) ?_;exact(if_pos h))
   have hn:=h1 (VP _);refine jP a.v b.v ⟨by show(0:Int)<=1;decide,by show(1:Int)<3;decide⟩ rfl rfl (λh=>?_) (λh=>?_) (λh=>⟨λ_=>hn,λ_=>h⟩)
   .unfold aR;(refine V3 (if_neg (by exact(I2 [.Q Qa Qb] (.n q9)) hn)) ?_;refine V3 (if_neg (by exact(I2 [.Q Qa Qb] (.n (.L Qb Qa))) hn)) ?_;exact(if_pos h))
   unfold aR;(refine V3 (if_neg (by exact(I2 [.Q Qa Qb] (.n q9)) hn)) ?_;refine V3 (if_neg (by exact(I2 [.Q Qa Qb] (.n (.L Qb Qa))) hn)) ?_;refine V3 (if_neg (by exact Int.lt_asymm h)) ?_;exact(if_pos h))
  obtain⟨pi,pd⟩:=p;dsimp only at rV BW Fo cB OO;refine Go.assign C (d:=.int la) (by z_go) (Ew.dq C (True/\True/\ax (aP a) (.int pi)) (idx (aP a) (.int pi)) ?_ ?_) (by z_go) ?_
  .exact⟨Wa,Wa,gR a rV.1 rV.2⟩
  .exact BW
  refine Go.assign C (d:=.int lb) (by z_go) (Ew.dq C (True/\True/\ax (aP b) (.int pi)) (idx (aP b) (.int pi)) ?_ ?_) (by z_go) ?_
  .exact⟨Wa,Wa,gR b rV.1 rV.2⟩
  .exact Fo
  refine Go.ite (c:=decide (la<lb)) (Tw.dq C (True/\True/\aV .Lt (.int la) (.int lb)) (ag .Lt (.int la) (.int lb)) ?_ ?_) (λh=>?_) λh=>Go.nil (du.nil ?_)
  .exact⟨Wa,Wa,Wa⟩
  .rfl
  .rw[cB (of_decide_eq_true h)];refine Go.ret (d:=.int (-pd)) (Ew.dq C (True/\dz (.int pd)) (a9 (.int pd)) ?_ ?_) rfl
   .exact⟨Wa,Wa⟩
   rfl
  refine Go.ite (c:=decide (lb<la)) (Tw.dq C (True/\True/\aV .Gt (.int la) (.int lb)) (ag .Gt (.int la) (.int lb)) ?_ ?_) (λh'=>?_) λh'=>Go.nil (du.nil (Go.nil ?_))
  .exact⟨Wa,Wa,Wa⟩
  .rfl
  .rw[OO (of_decide_eq_true h')];refine Go.ret (d:=.int pd) (Ew.dq C (True) (.int pd) ?_ ?_) rfl
   .trivial
   rfl
  have g1:=of_decide_eq_false h;have g2:=of_decide_eq_false h';refine cu (heq (by exact(I2 [.n q9,.n (.L Qb Qa)] vQ) g1 g2)) λq1 q2=>?_;exact⟨q1,q2,.val (.int pi),.val (.int pd),.val (.int la),.val (.int lb),rfl⟩
 intro az bx;obtain⟨h1,h2,s3,s4,s5,s6,rfl⟩:=bx;have e:aR way a b=0:=by unfold aR;(refine Eq.substr (h1 (by show 1<=2;exact VC _)) ?_;refine Eq.substr (h2 (by show 2<=2;exact Tc rfl)) ?_);simp
 rw[e];refine Go.ret (d:=.int 0) (Ew.dq C (True) (D.int 0) ?_ ?_) rfl
 .trivial
 rfl
structure Mk(G:Gd)(K:Frag)(fI:Addr):Prop where
 H7:makesIn K G.J=true
 H9:findIn K (.ref G.J) "__init__"=some (some (.ref fI))
 tI:typeIn K (.ref fI)=some (.type "function")
 sO:keepIn K (.ref G.J)=true
 hs:findIn K (.ref G.J) "__setattr__"=some (some (.builtin "object.__setattr__"))
 hp:plainOver K G.J=true
 ht:takerIn K G.J (Str.ofString "comp_select_list")=some none
 hh:hasDictIn K G.J=true
 name:G.mg (Str.ofString "TupleComp")=some (.ref G.J)
 cZ:MethAt G fI jY.params jY.body jY.scope
section
variable{G:Gd}{n:Nat}{K:Frag}{fC fI:Addr}
def x8:∃p1 p2 p3 p4,jY.body=[.Assign [.Attribute (.Name (S "self") p1) (S "comp_select_list") p2] (.Name (S "comp_select_list") p3) p4]:=G6 _ _ _ _ rfl
def C7(Y:Co G K fC)(Z:Mk G K fI)(ds:List D):PL G (n+1) [.list ds] (λvs=>call (.ref G.J) vs) (.judge (.list ds)):=by
 intro A s X vs R Sg rl;obtain⟨v,r,rfl,hv,hr⟩:=af.mp rl;obtain rfl:=aE.mp hr;obtain⟨hh,g,d,t,os⟩:=s;dsimp only at Sg hv;have KI:K.In hh:=Y.at_ Sg.tb;(refine dm Z.cZ λnm qual doc pm code ct fS=>?_;refine dw fS λan o ho hd xg m9=>?_);have OI:∀b o,hh.get? b=some o->((hh.push emptyDict).push (instObj G.J hh.objs.size)).get? b=some o:=λb o e=>SR _ (SR _ e);have MG:∀b o,nv o->G.h₀.get? b=some o->((hh.push emptyDict).push (instObj G.J hh.objs.size)).get? b=some o:=λb o PN e=>OI _ _ (Sg.base b o PN e);refine wpAny_call (make_core (makes_of KI Z.H7) (looks_findIn KI Z.H9) (λself=>bind_fn KI self Z.tI) (.inl rfl) ?_);refine ja (s:=⟨(hh.push emptyDict).push (instObj G.J hh.objs.size),g,d,t,os⟩) (binds:=[(S "self",.ref (hh.objs.size+1)),(S "comp_select_list",v)]) ?_ (MG _ _ (lg hd) ho) hd (ao G.nolimit λmc x y=>⟨mc,Ns.b4 x (MG _),y⟩) (ia xg λc o vs t e g r=>⟨c,o,vs,t,e,MG _ _ (m9 c o e g) g,r⟩) ?_ ?_ (λh₁ tk d5 hW=>?_)
 .have h1:=R.depth;refine(?_:A.depth+1<recursionLimit);exact(A3 [.l pQ Vc] (.l fJ Vc)) h1
 .rfl
 .intro x hx;left;rcases Vr.mp hx with rfl|hx
  .rfl
  rcases Vr.mp hx with rfl|hx
  .rfl
  exact pL hx
 obtain⟨p1,p2,p3,p4,hb⟩:=x8;rw[hb];dsimp only at d5 hW;generalize hL:((hh.push emptyDict).push (instObj G.J hh.objs.size)).objs.size=L at d5 hW;have MJ:L=hh.objs.size+2:=by simp only[<-hL,Vl,Vl]
 have none_of:∀b,hh.objs.size<=b->hh.get? b=none:=λb hb=>by
  induction h:hh.get? b using Option.casesOn with
  |none=>rfl
  |some o=>exact absurd (VD h) (V1.mpr hb)
 have F':Fr hh L h₁ _:=⟨d5.ns,λb o e=>d5.keep _ _ (OI b o e),by exact Nat.le.intro (V7 MJ)⟩;have gx:((hh.push emptyDict).push (instObj G.J hh.objs.size)).get? (hh.objs.size+1)=some (instObj G.J hh.objs.size):=by
  have e:((hh.push emptyDict).push (instObj G.J hh.objs.size)).get? (hh.push emptyDict).objs.size=some (instObj G.J hh.objs.size):=TG _ rfl
  rwa [Vl]at e
 have gd:((hh.push emptyDict).push (instObj G.J hh.objs.size)).get? hh.objs.size=some emptyDict:=SR _ (TG _ rfl);have N:News hh L h₁ [(hh.objs.size+1,instObj G.J hh.objs.size),(hh.objs.size,dictOf [] 0)]:=by
  intro p hp;rcases Vr.mp hp with rfl|hp
  .exact⟨d5.keep _ _ gx,by show hh.objs.size+1≠L;exact(A2 [.q Va (.a Vb K2)] (.n (.q f9 Va))) MJ,none_of _ (by show hh.objs.size<=hh.objs.size+1;exact UB _ _)⟩
  rw[TX.mp hp];exact⟨d5.keep _ _ gd,by show hh.objs.size≠L;exact(A2 [.q Va (.a Vb K2)] (.n (.q Vb Va))) MJ,none_of _ (VP _)⟩
 have ok:zP (envOfC qual jY.scope L fI code):=⟨rfl,rfl,rfl,hW.apart⟩;have p9:Holds (envOfC qual jY.scope L fI code) h₁ (S "self") (some (.ref (hh.objs.size+1))):=.inl ⟨rfl,_,d5.ns,rfl⟩;have Ks:Holds (envOfC qual jY.scope L fI code) h₁ (S "comp_select_list") (some v):=.inl ⟨rfl,_,d5.ns,rfl⟩;refine wpAny_execs_cons (plainObj_wpAny_Assign_Attribute ?_);refine VY (dy ok Ks ?_ (by rfl)) (by rfl);refine VY (dy ok p9 ?_ (by rfl)) (by rfl);have I:InstAt h₁ (hh.objs.size+1) (instObj G.J hh.objs.size) G.J (some (dictOf [] 0)):=.of_news N (.head _) (.tail _ (.head _));refine set_dict (es:=[]) (n:=0) F' KI N I rfl Z.hs Z.hp Z.ht Z.hh rfl rfl (.tail (by show hh.objs.size+1≠hh.objs.size;exact V9 (ne_add_one hh.objs.size)) (.head λp hp=>nomatch hp)) (by show 1<=1000;exact VC _) λh' Ry N'=>?_;refine wpAny_execs_nil ⟨rfl,?_⟩;have e1:Ext G ⟨hh,g,d,t,os⟩ ⟨h',g,d,tk+2,os⟩:=.full Ry.keep rfl id;have nX:∀b,hh.objs.size<=b->¬X b:=λb hb q=>by refine aO (Sg.live b q) λo e=>?_;rw[none_of b hb]at e;exact cG e
 refine⟨e1,fy.mpr ⟨hh.objs.size+1,hh.objs.size,rfl,nX _ (by exact UB _ _),nX _ (VP _),(N' _ (.head _)).1,_,v,⟨_,_,_,(N' _ (.tail _ (.head _))).1,rfl,?_,λ_=>rfl⟩,?_,?_,e1.rep hv⟩⟩
 .intro e he;have:=Array.mem_toList_iff.mpr he;rw[TX.mp this];exact pA _ _ rfl
 .rfl
 rfl
def vH(Y:Co G K fC)(Z:Mk G K fI)(ds:List D):gV G (n+1) (S "TupleComp") [.list ds] (.judge (.list ds)):=by
 intro F ρ k e es p pos hk NC e9 a A s X R Sx;refine Call_Name rfl (VY (rG Sx hk Z.name ?_) NC);refine callWith_K (K:=K) (h₀:=s.heap) (Y.at_ Sx.gs.tb) Z.sO ?_ (cO e9) ?_
 .refine ay (a A s X _ R Sx) (λvs aw h1 h2=>⟨Y.at_ (Sx.ext h1).gs.tb,?_⟩);exact ay (C7 Y Z ds A aw _ vs R (Sx.ext h1).ph h2) (λv au h3 h4=>⟨h1.trans h3,h4⟩)
 simp only[Vu,Uw]at e9;exact(dT e9.2).1
end
inductive jF(R:List fN)(sp:Sp):Nat->List Int->List Nat->Prop where
 |nil:jF R sp 0 [] []
 |sign {n:Nat} {x:Int} {c:Nat} {xs:List Int} {t:List Nat}:look sp x=some c->jF R sp n xs t->jF R sp (n+1) (x::xs) (c::t)
 |call {n m:Nat} {x:Int} {r xs:List Int} {t u:List Nat}:(x,r)∈R->jF R sp n r t->jF R sp m xs u->jF R sp (n+m+1) (x::xs) (t++u)
inductive vS(R:List fN)(sp:Sp):List Int->List Int->List Nat->Prop where
 |nil {av:List Int}:vS R sp av [] []
 |sign {av:List Int} {x:Int} {c:Nat} {xs:List Int} {t:List Nat}:look sp x=some c->vS R sp av xs t->vS R sp av (x::xs) (c::t)
 |call {av:List Int} {x:Int} {r xs:List Int} {t u:List Nat}:x∉av->(x,r)∈R->vS R sp (x::av) r t->vS R sp av xs u->vS R sp av (x::xs) (t++u)
section
variable{R:List fN}{sp:Sp}
def vS.append(h:vS R sp av xs t)(g:vS R sp av ys u):vS R sp av (xs++ys) (t++u):=by
 induction h with
 |nil=>exact g
 |sign e _ ih=>exact .sign e (ih g)
 |call a b c _ _ ih=>simp only[cons_append,Uh];exact .call a b c (ih g)
def jF.append(h:jF R sp n xs t)(g:jF R sp m ys u):∃k,jF R sp k (xs++ys) (t++u):=by
 induction h with
 |nil=>exact⟨m,g⟩
 |sign e _ ih=>refine aO ih λk h=>?_;exact⟨_,.sign e h⟩
 |call a b c _ ih=>refine aO ih λk h=>?_;simp only[cons_append,Uh];exact⟨_,.call a b h⟩
def jF.split:∀{xs ys:List Int} {n:Nat} {t:List Nat},jF R sp n (xs++ys) t->∃n₁ IU CA xi,n=n₁+IU/\t=CA++xi/\jF R sp n₁ xs CA/\jF R sp IU ys xi:=by
 intro l';induction l' with
 |nil=>exact @λ_ n t h=>⟨0,n,[],t,(Nat.zero_add _).symm,rfl,.nil,h⟩
 |cons x xs aU=>
  exact @λys _ _ h=>by
   cases h with
   |sign e h=>obtain⟨a,b,CA,xi,hn,rfl,h1,h2⟩:=aU h;exact qG _ b _ xi (by exact(A3 [.q Va nF] (.q fJ (.a f9 Vc))) hn) rfl (.sign e h1) h2
   |call a b h=>obtain⟨c,d,CA,xi,hn,rfl,h1,h2⟩:=aU h;exact qG _ d _ xi (by exact(A4 [.q Va nF] (.q (.a (.a Vd Va) K1) (.a (.a (.a Vd Vb) K1) Vc))) hn) ((Uh ..).symm) (.call a b h1) h2
def DI:∀(n:Nat) (av xs:List Int) (t:List Nat),jF R sp n xs t->(∃t',Sublist t' t/\vS R sp av xs t')\/∃y∈av,∃m t',m<=n/\jF R sp m [y] t'/\Sublist t' t:=by
 intro n;induction n using Nat.strongRecOn with
 |ind n ih=>
  intro av xs t h
  cases h with
  |nil=>exact .inl ⟨[],.slnil,.nil⟩
  | @sign n x c xs t e h=>
   rcases ih n (by exact UG _) av xs t h with⟨t',a,b⟩|⟨y,hy,m,t',hm,hd,hs⟩
   .exact .inl ⟨c::t',a.cons_cons c,.sign e b⟩
   exact .inr ⟨y,hy,m,t',by exact le_succ_of_le ‹_›,hd,hs.cons c⟩
  | @call n m x r xs t u e h g=>
   have hr:∀{y:Int} {k:Nat} {t':List Nat},y∈av->k<=n+m->jF R sp k [y] t'->Sublist t' (t++u)->∃y∈av,∃k t',k<=n+m+1/\jF R sp k [y] t'/\Sublist t' (t++u):=λa b c d=>⟨_,a,_,_,by exact le_succ_of_le ‹_›,c,d⟩;by_cases hx:x∈av
   .exact .inr ⟨x,hx,n+0+1,t++[],by exact(A2 [] (.e (.a (.a Va K0) K1) (.a sd K1))),.call e h .nil,by rw[UX];exact sublist_append_left t u⟩
   rcases ih m (by exact U2 _ _) av xs u g with⟨u',a,b⟩|⟨y,hy,k,t',hk,hd,hs⟩
   .rcases ih n (by exact(A2 [] (.l Va (.a sd K1)))) (x::av) r t h with⟨t',a',b'⟩|⟨y,hy,k,t',hk,hd,hs⟩
    .exact .inl ⟨t'++u',a'.append a,.call hx e b' b⟩
    rcases Vr.mp hy with rfl|hy
    .rcases ih k (by exact(A3 [.e Va Vb] (.l Va (.a nF K1))) hk) av [y] t' hd with⟨v,a',b'⟩|⟨z,hz,k',v,e8,BY,cb⟩
     .exact .inl ⟨v++u',(a'.trans hs).append a,b'.append b⟩
     exact .inr (hr hz (by exact(A4 [.e Va Vb,.e Vc Va] (.e Vc (.a Vb Vd))) hk e8) BY ((cb.trans hs).trans (sublist_append_left t u)))
    exact .inr (hr hy (by exact le_add_right_of_le hk) hd (hs.trans (sublist_append_left t u)))
   exact .inr (hr hy (by exact le_add_left_of_le hk) hd (hs.trans (sublist_append_right t u)))
def Hd(h:jF R sp n xs t):∃t',Sublist t' t/\vS R sp [] xs t':=
 (DI n [] xs t h).resolve_right λm8=>ao m8 λ_ h _=>nomatch h
end
section
variable{P:fV}
def nY{bg:eC}{i:Nat}:eI P bg (i+1)=(match(eI P bg i)[i]? with|some s=>eI P bg i++br P s|none=>eI P bg i):=rfl
set_option tactic.hygienic true in
theorem jy{Good:eC->Prop}(bg:eC)(h0:Good bg)(hn:∀s,Good s->∀t∈br P s,Good t):∀i,∀s∈eI P bg i,Good s
 |0,s,h=>by delta eI at h;rw[TX.mp h];exact h0
 |i+1,s,h=>by
  have ih:=jy bg h0 hn i;rw[nY]at h;split at h
  .rename_i q e;rcases UU.mp h with h|h
   .exact ih s h
   exact hn q (ih q (To e)) s h
  exact ih s h
def jS(bg:eC)(i:Nat):∃l,eI P bg (i+1)=eI P bg i++l:=by
 simp only[nY];split
 ·exact⟨_,rfl⟩
 exact⟨[],(UX _).symm⟩
set_option tactic.hygienic true in
def vK(bg:eC):∀i j s,j<i->(eI P bg i)[j]? =some s->∀t∈br P s,t∈eI P bg i:=by
 intro l';induction l' with
 |zero=>exact @λ_ _ h _=>absurd h (U5 _)
 |succ i aU=>
  exact @λj s h e=>by
   intro t ht;have hl:j<(eI P bg i).length->(eI P bg i)[j]? =some s:=λhj=>by refine aO (jS (P:=P) bg i) λl hl=>?_;rw[hl,getElem?_append_left hj]at e;exact e
   by_cases hj:j<i
   .by_cases Ls:j<(eI P bg i).length
    .have:=aU j s hj (hl Ls) t ht;refine aO (jS (P:=P) bg i) λl hl=>?_;rw[hl];exact Tr _ this
    rw[nY]at e⊢;split at e
    .rename_i q hq;have:=(SF.mp hq).1;lia
    rw[Tg (by exact UJ ‹_›)]at e;exact cG e
   have:j=i:=by exact Nat.eq_of_lt_succ_of_not_lt h hj
   subst this;by_cases Ls:j<(eI P bg j).length
   .have:=hl Ls;rw[nY];rw[this];exact Tf _ ht
   rw[nY]at e;have q:(eI P bg j)[j]? =none:=Tg (by exact UJ ‹_›);simp only[q]at e;exact cG e
def yp(bg:eC):∀i,bg∈eI P bg i:=by
 intro l';induction l' with
 |zero=>exact .head _
 |succ i aU=>exact by refine aO (jS (P:=P) bg i) λl hl=>?_;rw[hl];exact Tr _ (aU)
def nu{Good:eC->Prop}(bg:eC)(h0:Good bg)(hn:∀s,Good s->∀t∈br P s,Good t)(f g:eC->Int)(hf:∀s,Good s->g s+((br P s).map f).sum<=f s):
 ∀i,i<=(eI P bg i).length->(((eI P bg i).take i).map g).sum+(((eI P bg i).drop i).map f).sum<=f bg:=by
 intro l';induction l' with
 |zero=>exact @λ_=>by simp[show eI P bg 0=[bg]from rfl]
 |succ i aU=>
  exact @λh=>by
   have ih:=aU;have hg:=jy (P:=P) bg h0 hn i;have hi:i<(eI P bg i).length:=Nat.lt_of_not_le λq=>by rw[nY]at h;rw[Tg q]at h;dsimp only at h;exact absurd ‹_› (V1.mpr ‹_›)
   have e:=SK hi;have ih:=ih (by exact VE ‹_›);rw[nY];rw[e];dsimp only;have hs:=hf _ (hg _ (UH hi));simp only[Sq (by assumption),drop_append_of_le_length (by assumption),Ug,e,Option.toList_some,UT,sum_append_int,UT,sum_append_int];rw[SG hi,Vt,Vv]at ih;simp only[Vt,VG,Vv,VJ];lia
def tS{Good:eC->Prop}(bg:eC)(h0:Good bg)(hn:∀s,Good s->∀t∈br P s,Good t)(f:eC->Int)(hf:∀s,Good s->1+((br P s).map f).sum<=f s)(hp:∀s,Good s->0<=f s):
 ∃N,(eI P bg N).length=N/\(N:Int)<=f bg:=by
 have key:∀i,(i<=(eI P bg i).length)\/∃N,(eI P bg N).length=N:=λi=>by
  induction i with
  |zero=>exact .inl (VO _)
  |succ i ih=>
   rcases ih with ih|ih
   .by_cases h:(eI P bg i).length=i
    .exact .inr ⟨i,h⟩
    refine aO (jS (P:=P) bg i) λl hl=>?_;refine .inl ?_;by_cases hi:i<(eI P bg i).length
    .have e:=SK hi;simp only[hl,TU];exact(A3 [.l Va Vb] (.e fJ nF)) hi
    exact(A3 [.e Va Vb,.n (.q Vb Va),.n nE] (.e fJ Vc)) ih h hi
   exact .inr ih
 have MY:∀xs:List eC,(∀s∈xs,Good s)->0<=(xs.map f).sum:=λxs=>by
  induction xs with
  |nil=>intro _;exact VT _
  |cons x xs ih=>intro h;simp only[Vt,Vv];have:=ih λs hs=>h s (.tail _ hs);have:=hp x (h x (.head _));lia
 have one:∀i,i<=(eI P bg i).length->(i:Int)<=f bg:=λi hi=>by
  have h:=nu bg h0 hn f (λ_=>1) hf i hi;have h2:=MY ((eI P bg i).drop i) λs hs=>jy bg h0 hn i s (mem_of_mem_drop hs);have h3:(((eI P bg i).take i).map λ_=>(1:Int)).sum=i:=by
   have:∀xs:List eC,(xs.map λ_=>(1:Int)).sum=xs.length:=λxs=>by
    induction xs with
    |nil=>rfl
    |cons x xs ih=>simp only[Vt,Vv,ih,Ux];exact Int.add_comm _ _
   rw[this,UC];exact(A2 [.e Va Vb] (.Q (.o (.i Va Vb)) bA)) hi
  exact(ar 1 6 [_] [_,_,_] [.E (.a Qa Qb) Qc,.E K0 Qb,.Q Qa bA] (.E bA Qc)) h h2 h3
 rcases key ((f bg).toNat+1)with h|⟨N,h⟩
 .have:=one _ h;omega
 exact bH N h (one N (by exact VH (V7 h)))
def md(xs:List eC):((wholeOf P xs).length:Int)=(xs.map λs=>((outs P s).length:Int)).sum:=by
 delta wholeOf;induction xs with
 |nil=>rfl
 |cons x xs ih=>simp only[Um,TU,Vt,Vv,<-ih];rfl
end
def ox{κ α:Type}[DecidableEq κ]{aH:List (κ×α)}{k:κ}(d:α)(h:k∉aH.map (·.1)):d8 aH k d=aH++[(k,d)]:=by delta d8;rw[if_neg];intro q;refine ao (UR.mp q) λx hx e=>?_;exact h (VB.mpr ⟨x,hx,of_decide_eq_true e⟩)
def qq{κ α:Type}[DecidableEq κ](aH:List (κ×α))(k:κ)(d:α):(d8 aH k d).map (·.1)=if k∈aH.map (·.1)then aH.map (·.1)else aH.map (·.1)++[k]:=by
 by_cases h:k∈aH.map (·.1)
 .rw[if_pos h];delta d8;rw[if_pos (by refine ao (VB.mp h) λx hx e=>?_;exact UR.mpr ⟨x,hx,Vk e⟩),VA];apply TK;intro x _;refine(?_:(if x.1=k then(x.1,d)else x).1=x.1);split<;>rfl
 (refine Eq.substr (if_neg h) ?_;refine Eq.substr (ox d h) ?_;refine V3 UT ?_);rfl
def kn{κ α:Type}[DecidableEq κ]{aH:List (κ×α)}{k:κ}{d:α}(h:(aH.map (·.1)).Nodup):((d8 aH k d).map (·.1)).Nodup:=by
 rw[qq];split
 ·exact h
 rename_i q;rw[Uq];exact⟨h,by simp,λa ha b hb e=>q (by rw[TX.mp hb]at e;exact e▸ha)⟩
def qI{κ α:Type}[DecidableEq κ]:∀(ys xs:List (κ×α)),((xs++ys).map (·.1)).Nodup->ys.foldl (λacc kv=>d8 acc kv.1 kv.2) xs=xs++ys:=by
 intro l';induction l' with
 |nil=>exact @λxs _=>by exact(UX _).symm
 |cons y ys aU=>
  exact @λxs h=>by
   have hy:y.1∉xs.map (·.1):=by rw[UT,Vt,Uq]at h;exact λq=>h.2.2 _ q _ (.head _) rfl
   simp only[UY,ox y.2 hy,aU (xs++[(y.1,y.2)]) (by simpa using h)];exact Uh ..
def tL{t:Cs}(h:(t.map (·.1)).Nodup):hO t=t:=qI t [] (by simpa using h)
def bW{bk:Bk}(nm:Int)(e:En)(h:(bk.map (·.1)).Nodup):bo bk nm e=d8 bk nm (ji (f7 bk nm) e):=by delta bo;rw[Ui,qI bk [] (by simpa using h)];rfl
def nx(bk:Bk)(nm x:Int)(e:En):f7 (d8 bk nm e) x=if x=nm then e else f7 bk x:=by
 delta f7;by_cases h:x=nm
 .subst h;rw[if_pos rfl,e6];rfl
 rw[if_neg h,iU _ _ h]
def jv{κ α:Type}[DecidableEq κ]{aH:List (κ×α)}{k:κ}:(look aH k).isSome=true↔k∈aH.map (·.1):=by
 delta look;rw[Option.isSome_map,find?_isSome];constructor
 .intro bx;refine ao bx λx hx e=>?_;exact VB.mpr ⟨x,hx,of_decide_eq_true e⟩
 intro h;refine ao (VB.mp h) λx hx e=>?_;exact bH x hx (Vk e)
theorem e7{κ α:Type}[DecidableEq κ]:∀{aH:List (κ×α)} {x:κ×α},(aH.map (·.1)).Nodup->x∈aH->look aH x.1=some x.2
 |y::ys,x,h,hx=>by
  rw[Vt,UZ]at h;delta look;rcases Vr.mp hx with rfl|hx
  .simp
  have:y.1≠x.1:=λq=>h.1 (q▸TP hx);rw[SW (by simpa using this)];exact e7 h.2 hx
noncomputable def eT(ab:List Int):List Int:=((List.range ab.length).filter λk=>decide (ab.getD k 0∉ab.take k)).map λk=>ab.getD k 0
def gM(ab:List Int)(y:Int):eT (ab++[y])=if y∈ab then eT ab else eT ab++[y]:=by
 delta eT;have hg:∀k,k<ab.length->(ab++[y]).getD k 0=ab.getD k 0:=λk hk=>by (refine V3 Su ?_;refine Eq.substr (getElem?_append_left hk) ?_;exact Su)
 have hl:(ab++[y]).getD ab.length 0=y:=by rw[Su,SE (VP _)];simp
 simp only[TU,Te,U4,T4,UT];have e1:((List.range ab.length).filter λk=>decide ((ab++[y]).getD k 0∉(ab++[y]).take k))=(List.range ab.length).filter λk=>decide (ab.getD k 0∉ab.take k):=by apply filter_congr;intro k hk;have hk:=Vm.mp hk;simp only[hg k hk,Sq (by exact VE ‹_›)]
 rw[e1];have e2:(((List.range ab.length).filter λk=>decide (ab.getD k 0∉ab.take k)).map λk=>(ab++[y]).getD k 0)=((List.range ab.length).filter λk=>decide (ab.getD k 0∉ab.take k)).map λk=>ab.getD k 0:=by apply TK;intro k hk;exact hg k (Vm.mp (UW.mp hk).1)
 simp only[e2,Uy,U9,hl,Sq (VP _),UA];by_cases h:y∈ab
 .rw[if_pos h];simp[h]
 rw[if_neg h];simp[h,hl]
def iT(ab:List Int)(y:Int):y∈eT ab↔y∈ab:=by
 suffices∀n (ab:List Int),ab.length=n->(y∈eT ab↔y∈ab)from this _ ab rfl;intro n;induction n with
 |zero=>intro ab h;rw[SO.mp h];rfl
 |succ n ih=>
  intro ab h;have eH:ab≠[]:=λq=>by rw[q]at h;trivial
  rw[<-dropLast_concat_getLast eH,gM];have ih:=ih ab.dropLast (by simp[h]);split
  ·rename_i q;rw[ih,UU];constructor
   .exact .inl
   rintro(p|p)
   .exact p
   rw[TX.mp p];exact q
  rw[UU,UU,ih]
def lO(ab:List Int):(eT ab).Nodup:=by
 suffices∀n (ab:List Int),ab.length=n->(eT ab).Nodup from this _ ab rfl;intro n;induction n with
 |zero=>intro ab h;rw[SO.mp h];decide
 |succ n ih=>
  intro ab h;have eH:ab≠[]:=λq=>by rw[q]at h;trivial
  rw[<-dropLast_concat_getLast eH,gM];have ih:=ih ab.dropLast (by simp[h]);split
  ·exact ih
  rename_i q;rw[Uq];refine⟨ih,by simp,λa ha b hb e=>q ?_⟩;rw[TX.mp hb]at e;exact(iT _ _).mp (e▸ha)
def vE(ab:List Int):(eT ab).length<=ab.length:=by delta eT;rw[US];exact Vz (Td _ _) (by simp)
def bR(p:Bool)(ab:List Int)(fs:List Lg):aJ p ab fs=(eT ab).map λy=>(y,mM p (bF ab fs y)):=by delta aJ eT;rw[VA];rfl
def i9(p:Bool)(ab:List Int)(fs:List Lg):(aJ p ab fs).map (·.1)=eT ab:=by
 rw[bR,VA]
 conv=>rhs;rw[<-map_id (eT ab)]
 rfl
def mZ(p:Bool)(ab:List Int)(fs:List Lg)(o:Lg)(fr:Bool)(hf:∀o∈fs,gX o∈ab):
 iA (aJ p ab fs) [(gX o,if p=true then .p 1 (if fr=true then 1 else 0)else .n (1+(if fr=true then 1 else 0)))]=aJ p (ab++[gX o]) (fs++if fr=true then[o]else[]):=by
 generalize hy:gX o=y;have hb:∀z,bF (ab++[y]) (fs++if fr=true then[o]else[]) z=((ab.count z:Int)+(if z=y then 1 else 0),((fs.filter λo=>decide (gX o=z)).length:Int)+(if z=y then(if fr=true then 1 else 0)else 0)):=λz=>by
  delta bF;rw[Ur,T4,TU];have e1:count z [y]=if z=y then 1 else 0:=by
   rw[count_singleton];by_cases h:z=y
   .subst h;simp
   rw[if_neg h,if_neg];simpa using λq=>h q.symm
  have e2:(filter (λo=>decide (gX o=z)) (if fr=true then[o]else[])).length=if z=y then(if fr=true then 1 else 0)else 0:=by
   induction fr using Bool.casesOn with
   |false=>simp
   |true=>
    (refine Eq.substr (if_pos rfl) ?_;refine Eq.substr (if_pos rfl) ?_;refine Eq.substr Uy ?_;refine Eq.substr hy ?_);by_cases h:z=y
    .subst h;simp
    rw[if_neg h,if_neg (by simpa using λq=>h q.symm)];rfl
  rw[e1,e2];congr 1
  .split<;>rfl
  split<;>(try split)<;>rfl
 have hk:=i9 p ab fs;have hn:((aJ p ab fs).map (·.1)).Nodup:=hk▸lO ab;delta iA;rw[tL hn];refine(?_:fQ (aJ p ab fs) (y,_)=_);delta fQ;dsimp only;by_cases h:y∈ab
 .have hm:(y,mM p (bF ab fs y))∈aJ p ab fs:=by rw[bR];exact VB.mpr ⟨y,(iT ab y).mpr h,rfl⟩
  rw[e7 hn hm];dsimp only;delta d8;(refine V3 (if_pos (UR.mpr ⟨_,hm,by simp⟩)) ?_;rw[bR p (ab++[y]),gM];refine Eq.substr (if_pos h) ?_;rw[bR];refine V3 VA ?_);apply TK;intro z hz;refine(?_:(if z=y then(z,_)else(z,mM p (bF ab fs z)))=_);rw[hb z];by_cases Ib:z=y
  .subst Ib;(refine V3 (if_pos rfl) ?_;refine Eq.substr (if_pos rfl) ?_;refine Eq.substr (if_pos rfl) ?_);generalize(if fr=true then(1:Int)else 0)=f;delta mM bF;induction p using Bool.casesOn with
   |true=>refine(?_:(z,Cv.p _ _)=(z,Cv.p _ _));rw[Int.add_comm,Int.add_comm f]
   |false=>refine(?_:(z,Cv.n _)=(z,Cv.n _));congr 2;dsimp only;exact(ar 2 3 [_,_] [_] [] (.Q (.a (.a bA ew) (.a K1 Qa)) (.a (.a bA K1) (.a ew Qa))))
  rw[if_neg Ib];simp only[if_neg Ib,VM];rfl
 have Cb:y∉(aJ p ab fs).map (·.1):=by rw[hk,iT];exact h
 have hl:look (aJ p ab fs) y=none:=by
  induction e:look (aJ p ab fs) y using Option.casesOn with
  |none=>rfl
  |some v=>exact absurd (jv.mp (by rw[e];rfl)) Cb
 (refine Eq.substr hl ?_;refine V3 (ox _ Cb) ?_;rw[bR p (ab++[y]),gM];refine Eq.substr (if_neg h) ?_;refine V3 ?_ (V7 UT);rw[bR]);have hc:(fs.filter λo=>decide (gX o=y)).length=0:=by rw[SO,S9];intro a ha q;exact h ((of_decide_eq_true q)▸hf a ha)
 congr 1
 .apply TK;intro z hz;have Ib:z≠y:=λq=>h ((iT ab y).mp (q▸hz));rw[hb z];simp only[if_neg Ib,VM];rfl
 have HC:=hb y;rw[if_pos rfl,if_pos rfl,T9.mpr h,hc]at HC;refine(?_:[(y,_)]=[(y,mM p (bF (ab++[y]) (fs++if fr=true then[o]else[]) y))]);rw[HC];generalize(if fr=true then(1:Int)else 0)=f;induction p using Bool.casesOn with
 |true=>show[(y,Cv.p 1 f)]=[(y,Cv.p (0+1) (0+f))];rw[VF,VF]
 |false=>show[(y,Cv.n (1+f))]=[(y,Cv.n (0+1+(0+f)))];rw[VF,VF]
noncomputable def i4:List Int->List Wi->List Lg
 |_,[]=>[]
 |pre,w::ws=>⟨w.k,pre++[w.nm],w.at_,w.at_⟩::i4 (pre++[w.nm]) ws
def ng{pre:List Int}:i4 pre []=[]:=rfl
def nh{pre:List Int}{w:Wi}{ws:List Wi}:i4 pre (w::ws)=⟨w.k,pre++[w.nm],w.at_,w.at_⟩::i4 (pre++[w.nm]) ws:=rfl
def ko:∀(ws:List Wi) (pre:List Int) (w:Wi),i4 pre (ws++[w])=i4 pre ws++[⟨w.k,pre++ws.map (·.nm)++[w.nm],w.at_,w.at_⟩]:=by
 intro l';induction l' with
 |nil=>exact @λpre w=>by simp[ng,nh]
 |cons v ws aU=>exact @λpre w=>by simp[ng,nh,aU]
def xQ:∀(ws:List Wi) (pre:List Int),(i4 pre ws).length=ws.length:=by
 intro l';induction l' with
 |nil=>exact @λ_=>rfl
 |cons y' ws aU=>exact @λ_=>by simp[ng,nh,aU]
def lu(k:Int)(l:List Int)(x a b:Int):iX ⟨k,l++[x],a,b⟩=x:=by unfold iX;simp
def AH(k:Int)(l:List Int)(x a b:Int)(h:l≠[]):gX ⟨k,l++[x],a,b⟩=l.getD (l.length - 1) 0:=by unfold gX;have:0<l.length:=TN.mpr h;simp only[TU,Te];(refine V3 Su ?_;refine Eq.substr (getElem?_append_left (by exact(A1 [.l K0 Va] (.l (.s fJ K2) Va)) this)) ?_;refine V3 ?_ (V7 Su));congr 2
noncomputable def eO(p:Bool)(nm:Int)(cs:List Lg)(told:Told):En:=
 ⟨(aI nm (ah nm cs)).length,(ah nm cs).length,(told.map (·.2)).count nm,((aI nm (ah nm cs)).map λo=>o.b - o.a).sum,aJ p ((ah nm cs).map gX) (aI nm (ah nm cs))⟩
def tU(p:Bool)(ab:List Int)(fs:List Lg):iA (aJ p ab fs) []=aJ p ab fs:=tL (by rw[i9];exact lO ab)
def By(p:Bool)(nm:Int)(cs:List Lg)(told:Told)(x y:Int):eO p nm cs (told++[(x,y)])=if nm=y then ji (eO p nm cs told) ⟨0,0,1,0,[]⟩else eO p nm cs told:=by
 by_cases h:nm=y
 .subst h;rw[if_pos rfl];unfold eO ji;dsimp only;(rw[tU];refine Eq.substr UT ?_;refine Eq.substr Ur ?_);simp[Int.add_comm]
 rw[if_neg h];unfold eO;(refine Eq.substr UT ?_;refine Eq.substr Ur ?_);have:count nm ([(x,y)].map (·.2))=0:=by rw[T9];simpa using h
 rw[this];rfl
def ud{nm:Int}{cs:List Lg}:∀o∈aI nm (ah nm cs),gX o∈(ah nm cs).map gX:=λo ho=>TP (UW.mp ho).1
def Bz(p:Bool)(nm:Int)(cs:List Lg)(told:Told)(o:Lg)(nD:o.b=o.a):
 eO p nm (cs++[o]) told=if nm=iX o then ji (eO p nm cs told) ⟨if o.st.count nm=1 then 1 else 0,1,0,0,[(gX o,if p=true then .p 1 (if o.st.count nm=1 then 1 else 0)else .n (1+(if o.st.count nm=1 then 1 else 0)))]⟩else eO p nm cs told:=by
 have e1:ah nm (cs++[o])=ah nm cs++if nm=iX o then[o]else[]:=by
  unfold ah;simp only[T4,Uy,U9];by_cases h:nm=iX o
  .rw[if_pos h,if_pos (Vk h.symm)]
  rw[if_neg h,if_neg (by simpa using λq=>h q.symm)]
 unfold eO;rw[e1];by_cases h:nm=iX o
 ·(refine Eq.substr (if_pos h) ?_;refine V3 ?_ (V7 (if_pos h)));have e2:aI nm (ah nm cs++[o])=aI nm (ah nm cs)++if decide (o.st.count nm=1)=true then[o]else[]:=by unfold aI;simp only[T4,Uy,U9]
  have e3:=mZ p ((ah nm cs).map gX) (aI nm (ah nm cs)) o (decide (o.st.count nm=1)) ud;unfold ji;dsimp only;rw[e2];(refine Eq.substr (UT (f:=gX)) ?_;refine Eq.substr (show[o].map gX=[gX o]from rfl) ?_;refine Eq.substr (V7 e3) ?_);by_cases hc:o.st.count nm=1
  .simp only[hc,decide_true,V8,TU,Te,UT,Vt,VG,sum_append_int,Vv,VJ,nD];congr 1
   .exact(A1 [] (.Q (.o fJ) (.a K1 bA)))
   .exact(A1 [] (.Q (.o fJ) (.a K1 bA)))
   .exact(A1 [] (.Q bA (.a K0 bA)))
   exact(I2 [] (.Q (.a Qa (.a (.s Qb Qb) K0)) (.a K0 Qa)))
  simp only[hc,decide_false,T8,V6,UX,TU,Te];congr 1
  .exact(A1 [] (.Q bA (.a K0 bA)))
  .exact(A1 [] (.Q (.o fJ) (.a K1 bA)))
  .exact(A1 [] (.Q bA (.a K0 bA)))
  exact V7 (VF (map (λo=>o.b - o.a) (aI nm (ah nm cs))).sum)
 (refine Eq.substr (if_neg h) ?_;refine V3 ?_ (V7 (if_neg h));rw[UX])
def DH(p:Bool)(nm:Int)(c1 c2:List Lg)(told:Told)(k:Int)(st:List Int)(a b:Int):
 eO p nm (c1++⟨k,st,a,b⟩::c2) told=if nm=iX ⟨k,st,a,a⟩then ji (eO p nm (c1++⟨k,st,a,a⟩::c2) told) ⟨0,0,0,if st.count nm=1 then b - a else 0,[]⟩else eO p nm (c1++⟨k,st,a,a⟩::c2) told:=by
 have e1:∀z,ah nm (c1++⟨k,st,a,z⟩::c2)=ah nm c1++((if nm=iX ⟨k,st,a,a⟩then[⟨k,st,a,z⟩]else[])++ah nm c2):=λz=>by
  unfold ah;rw[T4,Uy];have:iX ⟨k,st,a,z⟩=iX ⟨k,st,a,a⟩:=rfl;rw[this];by_cases h:nm=iX ⟨k,st,a,a⟩
  .rw[if_pos h,if_pos (Vk h.symm)];rfl
  rw[if_neg h,if_neg (by simpa using λq=>h q.symm)];rfl
 unfold eO;(refine Eq.substr (e1 a) ?_;refine Eq.substr (e1 b) ?_);by_cases h:nm=iX ⟨k,st,a,a⟩
 .simp only[if_pos h];have e2:∀z,aI nm (ah nm c1++([(⟨k,st,a,z⟩:Lg)]++ah nm c2))=aI nm (ah nm c1)++((if st.count nm=1 then[⟨k,st,a,z⟩]else[])++aI nm (ah nm c2)):=λz=>by
   unfold aI;rw[T4,T4,Uy,U9];by_cases hc:st.count nm=1
   .rw[if_pos hc,if_pos (Vk hc)]
   rw[if_neg hc,if_neg (by simpa using hc)]
  have e3:∀z,aJ p ((ah nm c1++([(⟨k,st,a,z⟩:Lg)]++ah nm c2)).map gX) (aI nm (ah nm c1)++((if st.count nm=1 then[(⟨k,st,a,z⟩:Lg)]else[])++aI nm (ah nm c2)))=aJ p ((ah nm c1++([(⟨k,st,a,a⟩:Lg)]++ah nm c2)).map gX) (aI nm (ah nm c1)++((if st.count nm=1 then[(⟨k,st,a,a⟩:Lg)]else[])++aI nm (ah nm c2))):=λz=>by
   simp only[bR,bR];have q:(ah nm c1++([(⟨k,st,a,z⟩:Lg)]++ah nm c2)).map gX=(ah nm c1++([(⟨k,st,a,a⟩:Lg)]++ah nm c2)).map gX:=by simp only[UT,UT,UT,UT];rfl
   rw[q];apply TK;intro y _;congr 2;unfold bF;congr 1;simp only[T4,T4,T4,T4,TU,TU,TU,TU];have:(filter (λo=>decide (gX o=y)) (if st.count nm=1 then[(⟨k,st,a,z⟩:Lg)]else[])).length=(filter (λo=>decide (gX o=y)) (if st.count nm=1 then[(⟨k,st,a,a⟩:Lg)]else[])).length:=by
    by_cases hc:st.count nm=1
    .have hz:gX ⟨k,st,a,z⟩=gX ⟨k,st,a,a⟩:=rfl;(refine Eq.substr (if_pos hc) ?_;refine Eq.substr (if_pos hc) ?_;refine Eq.substr Uy ?_;refine Eq.substr Uy ?_;refine Eq.substr hz ?_);by_cases hy:gX ⟨k,st,a,a⟩=y
     .rw[if_pos (Vk hy),if_pos (Vk hy)];rfl
     rw[if_neg (by simpa using hy),if_neg (by simpa using hy)]
    rw[if_neg hc,if_neg hc]
   rw[this]
  unfold ji;dsimp only;(refine Eq.substr (e2 b) ?_;refine Eq.substr (e3 b) ?_;refine Eq.substr (e2 a) ?_;rw[tU]);by_cases hc:st.count nm=1
  .simp only[hc,V8,TU,Te,Ux,UT,Vt,VG,sum_append_int,Vv,VJ];congr 1
   .exact V7 (VF ↑((aI nm (ah nm c1)).length+([].length+1+(aI nm (ah nm c2)).length)))
   .exact V7 (VF ↑((ah nm c1).length+([].length+1+(ah nm c2).length)))
   .exact(A1 [] (.Q bA (.a K0 bA)))
   exact(ar 0 8 [] [_,_,_,_] [] (.Q (.a Qa (.a (.a (.s Qb Qc) K0) Qd)) (.a (.s Qb Qc) (.a Qa (.a (.a (.s Qc Qc) K0) Qd)))))
  simp only[hc,V6,nil_append,TU,Te];congr 1
  .exact V7 (VF ↑((aI nm (ah nm c1)).length+(aI nm (ah nm c2)).length))
  .exact V7 (VF ↑((ah nm c1).length+(1+(ah nm c2).length)))
  .exact(A1 [] (.Q bA (.a K0 bA)))
  exact V7 (VF (map (λo=>o.b - o.a) (aI nm (ah nm c1)++aI nm (ah nm c2))).sum)
 simp only[if_neg h]
structure eE(p:Bool)(s:eC)(cs:List Lg):Prop where
 perm:(s.log++i4 [0] s.within).Perm cs
 ks:cs.map (·.k)=(List.range cs.length).map λ(k:Nat)=>(k:Int)
 ent:∀nm,f7 s.book nm=eO p nm cs s.told
 keys:(s.book.map (·.1)).Nodup
 has:∀nm,ah nm cs≠[]->nm∈s.book.map (·.1)
 HP:∀nm,nm∈s.book.map (·.1)->nm=0\/ah nm cs≠[]
 DS:∀o∈cs,2<=o.st.length/\o.st.length<=cs.length+1
section
variable{p:Bool}{s:eC}{cs:List Lg}
def eE.start{n0:Int}:eE p ⟨[n0],[],[],[],[]⟩ [] where
 perm:=.refl _
 ks:=rfl
 ent:=λnm=>rfl
 keys:=.nil
 has:=λnm h=>absurd rfl h
 HP:=λnm h=>nomatch h
 DS:=λo h=>nomatch h
def eE.len(B:eE p s cs):cs.length=callsOf s:=by have:=B.perm.length_eq;rw[TU,xQ]at this;exact this.symm
def eE.nodup(B:eE p s cs):(cs.map (·.k)).Nodup:=by rw[B.ks];delta Nodup;rw[Ul];exact nodup_range.imp λh q=>h (ofNat.inj q)
def zX(s:eC){ws:List Wi}{w:Wi}(h:s.within=ws++[w]):aW s=w.nm/\lastOf s=w/\stackOf s=([0]++ws.map (·.nm))++[w.nm]:=by
 have e:stackOf s=([0]++ws.map (·.nm))++[w.nm]:=by delta stackOf;rw[h];simp
 refine⟨?_,?_,e⟩
 .delta aW;rw[e];simp
 delta lastOf;rw[h];simp
def wa(B:eE p s cs):aW s=0\/ah (aW s) cs≠[]:=by
 rcases eq_nil_or_concat s.within with h|⟨ws,w,h⟩
 .left;delta aW stackOf;rw[h];rfl
 right;rw[concat_eq_append]at h;rw[(zX s h).1];have hp:=B.perm;rw[h,ko]at hp;have:(⟨w.k,[0]++ws.map (·.nm)++[w.nm],w.at_,w.at_⟩:Lg)∈cs:=hp.mem_iff.mp (by simp);exact ne_nil_of_mem (UW.mpr ⟨this,Vk (lu ..)⟩)
def h9{κ α:Type}[DecidableEq κ]{aH:List (κ×α)}{k x:κ}{d:α}:x∈(d8 aH k d).map (·.1)↔x∈aH.map (·.1)\/x=k:=by
 rw[qq];split
 ·rename_i h;exact⟨.inl,λq=>q.elim id λe=>e▸h⟩
 rw[UU,TX]
def eE.term(B:eE p s cs)(x:Int):eE p (cX s x) cs where
 perm:=B.perm
 ks:=B.ks
 ent:=λnm=>by
  refine(?_:f7 (bo s.book (aW s) _) nm=eO p nm cs (s.told++[(x,aW s)]));rw[bW _ _ B.keys,nx,By,<-B.ent nm];by_cases h:nm=aW s
  .subst h;rw[if_pos rfl]
  rw[if_neg h,if_neg h]
 keys:=by refine(?_:((bo s.book (aW s) _).map (·.1)).Nodup);rw[bW _ _ B.keys];exact kn B.keys
 has:=λnm h=>by refine(?_:nm∈(bo s.book (aW s) _).map (·.1));rw[bW _ _ B.keys];exact h9.mpr (.inl (B.has nm h))
 HP:=λnm h=>by
  replace h:nm∈(bo s.book (aW s) ⟨0,0,1,0,[]⟩).map (·.1):=h;rw[bW _ _ B.keys]at h;rcases h9.mp h with h|h
  .exact B.HP nm h
  exact h▸wa B
 DS:=B.DS
def eE.call{P:fV}(hp:P.paired=p)(B:eE p s cs)(x:Int)(r:List Int)(HE:x≠0):eE p (cq P s x r) (cs++[⟨callsOf s,stackOf s++[x],s.told.length,s.told.length⟩]):=by
 have eH:stackOf s≠[]:=by delta stackOf;simp
 have Fh:=lu (callsOf s) (stackOf s) x s.told.length s.told.length;have Lm:gX ⟨callsOf s,stackOf s++[x],s.told.length,s.told.length⟩=aW s:=AH _ _ _ _ _ eH;have zG:=λnm=>Bz p nm cs s.told ⟨callsOf s,stackOf s++[x],s.told.length,s.told.length⟩ rfl;rw[Fh,Lm]at zG;dsimp only at zG;have QP:(if(stackOf s++[x]).count x=1 then(1:Int)else 0)=cA s x:=by
  delta cA;(refine Eq.substr Ur ?_;refine Eq.substr count_singleton_self ?_);by_cases h:x∈stackOf s
  .rw[if_pos h,if_neg];have:=count_pos_iff.mpr h;exact(A1 [.l K0 Va] (.n (.q fJ K1))) this
  rw[if_neg h,if_pos];rw[T9.mpr h]
 refine⟨?_,?_,λnm=>?_,?_,λnm h=>?_,λnm h=>?_,λo ho=>?_⟩
 .refine(?_:(s.log++i4 [0] (s.within++[⟨x,s.told.length,callsOf s⟩])).Perm _);rw[ko,<-Uh];exact B.perm.append_right _
 .simp only[UT,TU,Te,U4,UT,B.ks,B.len];rfl
 .refine(?_:f7 (bo s.book x (ed P s x)) nm=eO p nm _ s.told);rw[bW _ _ B.keys,nx,zG nm,<-B.ent nm];by_cases h:nm=x
  ·(replace h:=V7 h;subst h)
   rw[if_pos rfl,if_pos rfl];delta ed;(refine Eq.substr hp ?_;refine Eq.substr QP ?_;rfl)
  rw[if_neg h,if_neg h]
 .refine(?_:((bo s.book x _).map (·.1)).Nodup);rw[bW _ _ B.keys];exact kn B.keys
 .refine(?_:nm∈(bo s.book x (ed P s x)).map (·.1));rw[bW _ _ B.keys];refine h9.mpr ?_;unfold ah at h;rw[T4,Uy,U9,Fh]at h;by_cases e:x=nm
  .exact .inr e.symm
  rw[if_neg (by simpa using e),UX]at h;exact .inl (B.has nm h)
 .replace h:nm∈(bo s.book x (ed P s x)).map (·.1):=h;rw[bW _ _ B.keys]at h;delta ah;simp only[T4,Uy,U9,Fh];rcases h9.mp h with h|h
  .rcases B.HP nm h with q|q
   .exact .inl q
   exact .inr λe=>q (append_eq_nil_iff.mp e).1
  rw[if_pos (Vk h.symm)];exact .inr (by simp)
 simp only[TU,Te];rcases UU.mp ho with ho|ho
 .have:=B.DS o ho;exact(A2 [.a (.e K2 Va) (.e Va f9)] (.a (.e K2 Va) (.e Va (.a f9 K1)))) this
 rw[TX.mp ho];have hl:=B.len;have:callsOf s=s.log.length+s.within.length:=rfl;have h2:(stackOf s).length=s.within.length+1:=by delta stackOf;simp
 refine(?_:2<=(stackOf s++[x]).length/\(stackOf s++[x]).length<=cs.length+1+1);simp only[TU,Te];exact(A5 [.q Va Vb,.q Vb (.a Vc Vd),.q Ve uo] (.a (.e K2 (.a Ve K1)) (.e (.a Ve K1) (.a fJ K1)))) hl this h2
def eE.eof(B:eE p s cs)(hw:s.within≠[]):∃LH,eE p (de s) LH/\LH.map (λo=>(o.k,o.st))=cs.map (λo=>(o.k,o.st)):=by
 refine iw ((eq_nil_or_concat s.within).resolve_left hw) λws w h=>?_;rw[concat_eq_append]at h;refine dW (zX s h) λht hl e9=>?_;have hp:=B.perm;rw[h,ko]at hp;have hm:(⟨w.k,[0]++ws.map (·.nm)++[w.nm],w.at_,w.at_⟩:Lg)∈cs:=hp.mem_iff.mp (by simp);rw[<-e9]at hp hm;(refine iw (append_of_mem hm) λc1 c2 aB=>?_;clear hm;subst aB);have Fh:iX ⟨w.k,stackOf s,w.at_,w.at_⟩=aW s:=by rw[e9,ht];exact lu ..
 have Ca:cg s=if(stackOf s).count (aW s)=1 then(s.told.length:Int) - w.at_ else 0:=by delta cg;rw[hl]
 have MB:∀nm z,ah nm (c1++⟨w.k,stackOf s,w.at_,z⟩::c2)=[]↔ah nm (c1++⟨w.k,stackOf s,w.at_,w.at_⟩::c2)=[]:=λnm z=>by delta ah;rw[T4,T4,Uy,Uy];have:iX ⟨w.k,stackOf s,w.at_,z⟩=iX ⟨w.k,stackOf s,w.at_,w.at_⟩:=rfl;rw[this];split<;>simp
 refine bH (c1++⟨w.k,stackOf s,w.at_,s.told.length⟩::c2) ⟨?_,?_,λnm=>?_,?_,λnm q=>?_,λnm q=>?_,λo ho=>?_⟩ ?_
 .refine(?_:Perm (s.log++[(⟨(lastOf s).k,stackOf s,(lastOf s).at_,s.told.length⟩:Lg)]++i4 [0] s.within.dropLast) _);(refine Eq.substr hl ?_;refine Eq.substr h ?_;refine Eq.substr dropLast_concat ?_;rw[Uh]);have h1:Perm ((⟨w.k,stackOf s,w.at_,w.at_⟩:Lg)::(s.log++i4 [0] ws)) (⟨w.k,stackOf s,w.at_,w.at_⟩::(c1++c2)):=by refine Perm.trans ?_ (hp.trans perm_middle);rw[<-Uh];exact perm_append_comm (l₁:=[(⟨w.k,stackOf s,w.at_,w.at_⟩:Lg)])
  simp only[Th];exact perm_middle.trans (((Perm.cons_inv h1).cons _).trans perm_middle.symm)
 .have:=B.ks;simp only[UT,Vt,TU,Ux]at this⊢;exact this
 .refine(?_:f7 (bo s.book (aW s) _) nm=eO p nm _ s.told);rw[bW _ _ B.keys,nx,DH,<-B.ent nm,Fh,Ca];by_cases q:nm=aW s
  .subst q;rw[if_pos rfl]
  rw[if_neg q,if_neg q]
 .refine(?_:((bo s.book (aW s) _).map (·.1)).Nodup);rw[bW _ _ B.keys];exact kn B.keys
 .refine(?_:nm∈(bo s.book (aW s) ⟨0,0,0,cg s,[]⟩).map (·.1));rw[bW _ _ B.keys];exact h9.mpr (.inl (B.has nm λe=>q ((MB nm _).mpr e)))
 .replace q:nm∈(bo s.book (aW s) ⟨0,0,0,cg s,[]⟩).map (·.1):=q;rw[bW _ _ B.keys]at q;rcases h9.mp q with q|q
  .exact(B.HP nm q).imp id λz e=>z ((MB nm _).mp e)
  rw[q];exact(wa B).imp id λz e=>z ((MB _ _).mp e)
 .have hz:(c1++⟨w.k,stackOf s,w.at_,s.told.length⟩::c2).length=(c1++(⟨w.k,stackOf s,w.at_,w.at_⟩:Lg)::c2).length:=by simp
  rw[hz];rcases UU.mp ho with ho|ho
  .exact B.DS o (Tr _ ho)
  rcases Vr.mp ho with rfl|ho
  .exact B.DS ⟨w.k,stackOf s,w.at_,w.at_⟩ (Tf _ (.head _))
  exact B.DS o (Tf _ (.tail _ ho))
 simp only[UT,Vt]
def eE.fin(B:eE p s cs)(hw:s.within=[])(names:List Int)(h0:0∉names):iN names s.book=gr p names (fB s.log) s.told:=by
 have hp:=B.perm;rw[hw]at hp;replace hp:s.log.Perm cs:=by simpa[ng,nh]using hp
 have Dx:cs.Pairwise λa b=>a.k<=b.k:=by
  have:(cs.map (·.k)).Pairwise λa b=>a<=b:=by rw[B.ks,Ul];exact pairwise_le_range.imp λh=>by exact VI.mpr ‹_›
  rw[Ul]at this;exact this
 have e:fB s.log=cs:=by refine eY (·.k) ((gz _).trans hp) ?_ (lK _) Dx;exact(((gz _).trans hp).map _).nodup_iff.mpr B.nodup
 rw[e];delta iN gr;induction names with
 |nil=>rfl
 |cons nm names ih=>
  have hn:nm≠0:=λq=>h0 (q▸ .head _);simp only[Um,<-ih λq=>h0 (.tail _ q),Uy];delta qa;by_cases hd:ah nm cs=[]
  .rw[if_pos hd,if_neg]
   .rfl
   intro q;exact((B.HP nm (jv.mp q)).resolve_left hn) hd
  (refine Eq.substr (if_neg hd) ?_;refine Eq.substr (if_pos (jv.mpr (B.has nm hd))) ?_;refine V3 Vt ?_);have:=B.ent nm;rw[this];rfl
end
structure Gm(P:fV):Prop where
 sy:∀r∈P.rules,∀y∈r.2,(look P.sp y).isSome=true\/y∈P.names
 L3:∀y,(look P.sp y).isSome=true->y≠0/\y<256
 nm:∀y∈P.names,256<=y
 n0:P.n0∈P.names
noncomputable def bS(s:eC):Nat:=s.told.length+2*s.log.length+s.within.length
structure Gen(P:fV)(s:eC):Prop where
 syms:∀y∈s.pile,y=0\/(look P.sp y).isSome=true\/y∈P.names
 zeros:s.pile.count 0=s.within.length
 bk:∃cs,eE P.paired s cs/\(P.paired=false->∀o∈cs,o.st.count (iX o)=1)
 told:∀p∈s.told,(look P.sp p.1).isSome=true
 bl:s.book.length<=bS s
 snd:∀n u,jF P.rules P.sp n (s.pile.filter λy=>decide (y≠0)) u->∃m,jF P.rules P.sp m [P.n0] (textOf P.sp s.told++u)
section
variable{P:fV}{s:eC}
def mj(h:(bk.map (·.1)).Nodup):(bo bk nm e).length<=bk.length+1:=by rw[bW _ _ h];exact lz _ _ _
def oU:r∈aL P y↔(y,r)∈P.rules:=by
 unfold aL;rw[VB];constructor
 .intro bx;obtain⟨⟨a,b⟩,h,rfl⟩:=bx;refine cu (UW.mp h) λh1 h2=>?_;have:a=y:=of_decide_eq_true h2;exact this▸h1
 intro h;exact bH (y,r) (UW.mpr ⟨h,Vk rfl⟩) rfl
def Gen.start(g:Gm P):Gen P (start P) where
 syms:=λy h=>by rw[show(Mine.start P).pile=[P.n0]from rfl,TX]at h;subst h;exact .inr (.inr g.n0)
 zeros:=by have:=g.nm _ g.n0;refine(?_:[P.n0].count 0=0);rw[T9];simp;exact(I1 [.E rX Qa] (.n (.Q K0 Qa))) this
 bk:=⟨[],eE.start,λ_ o h=>nomatch h⟩
 told:=λp h=>nomatch h
 bl:=VP _
 snd:=λn u h=>by
  have:=g.nm _ g.n0;have e:(Mine.start P).pile.filter (λy=>decide (y≠0))=[P.n0]:=by refine(?_:[P.n0].filter _=_);rw[Uy,if_pos (Vk (by exact(I1 [.E rX Qa] (.n (.Q Qa K0))) this))];rfl
  rw[e]at h;exact⟨n,h⟩
def Gen.eof(G:Gen P s)(h:s.pile=0::rest):Gen P (de s) where
 syms:=λy hy=>G.syms y (by rw[h];exact TB _ (by simpa[de,h]using hy))
 zeros:=by have:=G.zeros;rw[h,count_cons_self]at this;refine(?_:(s.pile.drop 1).count 0=s.within.dropLast.length);rw[h,Tz,<-this];rfl
 bk:=by
  refine ao G.bk λcs B q=>?_;have hw:s.within≠[]:=λe=>by have:=G.zeros;rw[h,e]at this;simp at this
  refine ao (B.eof hw) λLH B' e=>?_;refine bH LH B' (λhp o ho=>?_);have:(o.k,o.st)∈cs.map λo=>(o.k,o.st):=e▸TP ho;refine ao (VB.mp this) λo' iu e'=>?_;have:=q hp o' iu;have e2:o'.st=o.st:=V4 Prod.snd e';unfold iX at this⊢;rw[e2]at this;exact this
 told:=G.told
 bl:=by
  refine ao G.bk λcs B q=>?_;have hw:s.within.length≠0:=λe=>by have:=G.zeros;rw[h,e]at this;simp at this
  have h1:=mj (nm:=aW s) (e:=⟨0,0,0,cg s,[]⟩) B.keys;have h2:=G.bl;refine(?_:(bo s.book (aW s) ⟨0,0,0,cg s,[]⟩).length<=s.told.length+2*(s.log++[_]).length+s.within.dropLast.length);unfold bS at h2;simp only[TU,Te,Tz];exact(A5 [.e Va f9,.e Vb (.a (.a Vc (.m 2 Vd)) Ve)] (.e Va (.a (.a Vc (.m 2 uo)) (.s Ve K1)))) h1 h2
 snd:=λn u hd=>G.snd n u (by
  rw[h,Uy,if_neg (by decide)];have:(de s).pile=rest:=by show s.pile.drop 1=rest;rw[h];rfl
  rwa [this]at hd)
def Gen.term(g:Gm P)(G:Gen P s)(h:s.pile=x::rest)(h0:x≠0)(h1:x<256):Gen P (cX s x):=by
 have hx:(look P.sp x).isSome=true:=by
  rcases G.syms x (by rw[h];exact .head _)with q|q|q
  .exact absurd q h0
  .exact q
  have:=g.nm x q;lia
 refine aO (SM.mp hx) λc hc=>?_;have cf:(cX s x).pile=rest:=by show s.pile.drop 1=rest;rw[h];rfl
 refine⟨λy hy=>G.syms y (by rw[h];right;rwa [cf]at hy),?_,?_,?_,?_,λn u hd=>?_⟩
 .have:=G.zeros;rw[h,Tj h0]at this;rw[cf,this];rfl
 .refine ao G.bk λcs B q=>?_;exact bH cs (B.term x) q
 .intro p hp;rcases UU.mp hp with hp|hp
  .exact G.told p hp
  rw[TX.mp hp];exact hx
 .refine ao G.bk λcs B q=>?_;have h1:=mj (nm:=aW s) (e:=⟨0,0,1,0,[]⟩) B.keys;have h2:=G.bl;refine(?_:(bo s.book (aW s) ⟨0,0,1,0,[]⟩).length<=(s.told++[_]).length+2*s.log.length+s.within.length);unfold bS at h2;simp only[TU,Te];exact(A5 [.e Va f9,.e Vb (.a (.a Vc (.m 2 Vd)) Ve)] (.e Va (.a (.a q8 (.m 2 Vd)) Ve))) h1 h2
 rw[cf]at hd;have:=G.snd (n+1) (c::u) (by rw[h,Uy,if_pos (Vk h0)];exact .sign hc hd);refine aO this λm hm=>?_;refine⟨m,?_⟩;refine(?_:jF P.rules P.sp m [P.n0] (textOf P.sp (s.told++[(x,aW s)])++u));unfold textOf at hm⊢;simp only[UT,Uh,show[(x,aW s)].map (λp=>(look P.sp p.1).getD 0)=[c] by simp[hc]];exact hm
def Gen.call(g:Gm P)(G:Gen P s)(h:s.pile=x::rest)(h1:256<=x)(hr:r∈aL P x)(hf:P.paired=false->x∉stackOf s):Gen P (cq P s x r):=by
 have EG:=oU.mp hr;have cf:(cq P s x r).pile=r++[0]++rest:=by show r++[0]++s.pile.drop 1=_;rw[h];rfl
 have Ov:=g.sy _ EG;have Ml:∀y∈r,y≠0:=λy hy e=>by
  rcases Ov y hy with q|q
  .exact(g.L3 y q).1 e
  have:=g.nm y q;exact(I1 [.Q Qa K0,.E rX Qa] .f) e this
 refine⟨λy hy=>?_,?_,?_,G.told,?_,λn u hd=>?_⟩
 .rw[cf]at hy;rcases UU.mp hy with hy|hy
  .rcases UU.mp hy with hy|hy
   .exact .inr (Ov y hy)
   exact .inl (TX.mp hy)
  exact G.syms y (by rw[h];exact .tail _ hy)
 .have:=G.zeros;rw[h,Tj (by exact(I1 [.E rX Qa] (.n (.Q Qa K0))) h1)]at this;simp only[cf,Ur,Ur,T9.mpr λq=>Ml 0 q rfl,this];refine(?_:0+1+s.within.length=(s.within++[_]).length);simp only[TU,Te];exact Nat.add_comm _ _
 .refine ao G.bk λcs B q=>?_;refine bH _ (B.call rfl x r (by exact(I1 [.E rX Qa] (.n (.Q Qa K0))) h1)) (λhp o ho=>?_);rcases UU.mp ho with ho|ho
  .exact q hp o ho
  rw[TX.mp ho,lu];simp only[Ur,count_singleton_self,T9.mpr (hf hp)]
 .refine ao G.bk λcs B q=>?_;have h1:=mj (nm:=x) (e:=ed P s x) B.keys;have h2:=G.bl;refine(?_:(bo s.book x (ed P s x)).length<=s.told.length+2*s.log.length+(s.within++[_]).length);unfold bS at h2;simp only[TU,Te];exact(A5 [.e Va f9,.e Vb (.a (.a Vc (.m 2 Vd)) Ve)] (.e Va (.a (.a Vc (.m 2 Vd)) (.a Ve K1)))) h1 h2
 rw[cf,T4,T4,filter_eq_self.mpr λy hy=>Vk (Ml y hy)]at hd;have e:[(0:Int)].filter (λy=>decide (y≠0))=[]:=rfl;rw[e,UX]at hd;obtain⟨n1,n2,t1,t2, -,rfl,d1,d2⟩:=jF.split hd;have:=G.snd (n1+n2+1) (t1++t2) (by rw[h,Uy,if_pos (Vk (by exact(I1 [.E rX Qa] (.n (.Q Qa K0))) h1))];exact .call EG d1 d2);exact this
def Gen.cond(G:Gen P s)(hb:bS s+s.pile.length<=75)(hp:∀x p,s.pile=x::p->256<=x->P.paired=true->0<=pickOf P s x/\pickOf P s x<(aL P x).length):sY P s:=by
 refine ao G.bk λcs B q=>?_;have hz:=G.zeros;have hc:s.pile.count 0<=s.pile.length:=count_le_length;have hl:=B.len;have o8:callsOf s=s.log.length+s.within.length:=rfl;have OW:=G.bl;have D2:∀o∈s.log,o∈cs:=λo ho=>B.perm.mem_iff.mp (Tr _ ho);have Jr:∀kv∈s.book,kv.2=eO P.paired kv.1 cs s.told:=λkv yv=>by have:=B.ent kv.1;unfold f7 at this;rw[e7 B.keys yv]at this;exact this
 unfold bS at hb OW;refine⟨by exact(A4 [.e (.a yO Vd) (.c 75)] (.e Vd pj)) hb,by exact(A5 [.e (.a yO Vd) (.c 75),.q Ve Vc,.e Ve Vd] (.e Vc (.c 60))) hb hz hc,by exact(A4 [.e (.a yO Vd) (.c 75)] (.e Va pj)) hb,by exact(A4 [.e (.a yO Vd) (.c 75)] (.e Vb (.c 60))) hb,λo ho=>?_,?_,by exact(A5 [.e (.a yO Vd) (.c 75),.e Ve yO] (.e Ve pj)) hb OW,λkv yv=>?_,λkv yv=>?_,G.told,λp e e2=>?_,hp⟩
 .have:=B.DS o (D2 o ho);exact⟨this.1,by exact(ar 7 13 [_,_,_,_,_,_,_] [] [.e (.a yO Vd) (.c 75),.q Ve Vf,.q Vf nF,.a (.e K2 Vg) (.e Vg (.a Ve K1))] (.e Vg q0)) hb hl o8 this⟩
 .have h1:((s.log++i4 [0] s.within).map (·.k)).Nodup:=(B.perm.map _).nodup_iff.mpr B.nodup;rw[UT,Uq]at h1;exact h1.1
 .rw[Jr kv yv];intro c hc;replace hc:c∈aJ P.paired _ _:=hc;rw[bR]at hc;obtain⟨y,_,rfl⟩:=VB.mp hc;unfold mM
  cases P.paired<;>rfl
 .rw[Jr kv yv];refine(?_:(aJ P.paired _ _).length<=900);rw[bR,US];refine Vz (vE _) ?_;rw[US];refine Vz (Td _ _) ?_;exact(A6 [.e (.a yO Vd) (.c 75),.q Ve Vf,.q Vf nF] (.e Ve (.c 900))) hb hl o8
 rw[e,e2]at hz;simp at hz
def Gen.book(G:Gen P s)(h:s.pile=[])(h0:0∉P.names):(mG P s).noted=(mG P s).due:=by
 refine ao G.bk λcs B q=>?_;have hw:s.within=[]:=by have:=G.zeros;rw[h]at this;exact SO.mp this.symm
 exact B.fin hw P.names h0
def Gen.lx(G:Gen P s)(h:s.pile=[]):∃m,jF P.rules P.sp m [P.n0] (mG P s).text:=by refine aO (G.snd 0 [] (by rw[h];exact .nil)) λm hm=>?_;rw[UX]at hm;exact⟨m,hm⟩
end
noncomputable def yB(Sy Ts r:List Int):Prop:=∃l1 l2 l3,r=l1++(l2++l3)/\(l1=[]\/∃y∈Sy,l1=[y])/\(l2=[]\/∃y∈Ts,l2=[y])/\(l3=[]\/∃y∈Sy,l3=[y])
noncomputable def Ends(Ts e:List Int):Prop:=(∃y∈Ts,e=[y])\/∃y∈Ts,∃z∈Ts,e=[y,z]
structure eJ(P:fV)(Ts:List Int)(x:Int)(r0 r1 r2 e2 r3 e3:List Int):Prop where
 g:Gm P
 rules:P.rules=[(256,r0),(256,r1),(257,r2),(257,e2),(x,r3),(x,e3)]
 hx:258<=x
 names:P.names=[256,257,x]
 n0:P.n0=256
 ts:∀t∈Ts,t≠0/\t<256
 s0:yB (Ts++[256,257,x]) Ts r0
 s1:yB (Ts++[256,257,x]) Ts r1
 s2:yB (Ts++[256,257,x]) Ts r2
 s3:yB (Ts++[256,257,x]) Ts r3
 e2:Ends Ts e2
 e3:Ends Ts e3
 no:(256:Int)∉r0
section
variable{P:fV}{Ts:List Int}{x:Int}{r0 r1 r2 e2 r3 e3:List Int}
def eJ.rights(g:eJ P Ts x r0 r1 r2 e2 r3 e3):aL P 256=[r0,r1]/\aL P 257=[r2,e2]/\aL P x=[r3,e3]:=by
 have hx:=g.hx;have a1:¬(256:Int)=x:=by exact(I1 [.E (.c 258) Qa] (.n (.Q rX Qa))) hx
 have a2:¬(257:Int)=x:=by exact Int.ne_of_lt ‹_›
 have a3:¬x=256:=by exact(I1 [.E (.c 258) Qa] (.n (.Q Qa rX))) hx
 have a4:¬x=257:=by exact Int.ne_of_gt ‹_›
 unfold aL;rw[g.rules];simp[a1,a2,a3,a4]
def eJ.JU(g:eJ P Ts x r0 r1 r2 e2 r3 e3)(h:y∈Ts++[256,257,x]):y≠0:=by
 have hx:=g.hx;rcases UU.mp h with h|h
 .exact(g.ts y h).1
 simp only[Vr,Uz,V5]at h;exact(I2 [.E (.c 258) Qa,.o (.Q Qb rX) (.o (.Q Qb (.c 257)) (.Q Qb Qa))] (.n (.Q Qb K0))) hx h
def eJ.left(g:eJ P Ts x r0 r1 r2 e2 r3 e3)(h:(y,r)∈P.rules):y∈P.names:=by rw[g.rules]at h;rw[g.names];simp only[Vr,Uz,V5,Prod.mk.injEq]at h⊢;rcases h with h|h|h|h|h|h<;>simp[h.1]
noncomputable def w1(z:Nat):Nat:=if z=0 then 29 else if z=1 then 13 else if z=2 then 5 else 1
noncomputable def fM:List Int->Nat
 |[]=>0
 |y::rest=>(if y<256 then 1 else w1 (rest.count 0))+fM rest
noncomputable def q1(z:Nat):Nat:=if z=0 then 50 else if z=1 then 5 else if z=2 then 2 else 1
noncomputable def dh:List Int->Nat
 |[]=>1
 |y::rest=>(if y<256 then 1 else q1 (rest.count 0))*dh rest
def zS(z:Nat):1<=w1 z:=by unfold w1;split<;>(try split)<;>(try split)<;>exact VC _
def uM(z:Nat):1<=q1 z:=by unfold q1;split<;>(try split)<;>(try split)<;>exact VC _
def wk(y:Int)(t:List Int):fM (y::t)<=w1 (t.count 0)+fM t:=by have:=zS (t.count 0);refine(?_:(if y<256 then 1 else w1 (t.count 0))+fM t<=_);split<;>lia
def jm(h:y<256)(t:List Int):fM (y::t)=1+fM t:=by refine(?_:(if y<256 then 1 else w1 (t.count 0))+fM t=_);rw[if_pos h]
def GB(h:256<=y)(t:List Int):fM (y::t)=w1 (t.count 0)+fM t:=by refine(?_:(if y<256 then 1 else w1 (t.count 0))+fM t=_);rw[if_neg (V0.mpr ‹_›)]
def tM:∀l,1<=dh l:=by
 intro l';induction l' with
 |nil=>exact VP _
 |cons y t aU=>exact by have h1:=aU;have h2:=uM (t.count 0);refine(?_:1<=(if y<256 then 1 else q1 (t.count 0))*dh t);exact Nat.mul_pos (by split<;>lia) h1
def wU(y:Int)(t:List Int):dh (y::t)<=q1 (t.count 0)*dh t:=by have:=uM (t.count 0);refine(?_:(if y<256 then 1 else q1 (t.count 0))*dh t<=_);exact mul_le_mul_right _ (by split<;>omega)
def jo(h:y<256)(t:List Int):dh (y::t)=dh t:=by refine(?_:(if y<256 then 1 else q1 (t.count 0))*dh t=_);rw[if_pos h,Nat.one_mul]
def Hp(h:256<=y)(t:List Int):dh (y::t)=q1 (t.count 0)*dh t:=by refine(?_:(if y<256 then 1 else q1 (t.count 0))*dh t=_);rw[if_neg (V0.mpr ‹_›)]
def AS:∀l,l.length<=fM l:=by
 intro l';induction l' with
 |nil=>exact VP _
 |cons y t aU=>exact by have h1:=aU;have h2:=zS (t.count 0);refine(?_:t.length+1<=(if y<256 then 1 else w1 (t.count 0))+fM t);split<;>lia
def eJ.z7(g:eJ P Ts x r0 r1 r2 e2 r3 e3)(h:yB (Ts++[256,257,x]) Ts r)(rest:List Int):
 fM (r++0::rest)<=2*w1 (rest.count 0+1)+2+fM rest/\dh (r++0::rest)<=q1 (rest.count 0+1)*(q1 (rest.count 0+1)*dh rest):=by
 obtain⟨l1,l2,l3,rfl,h1,h2,h3⟩:=h;have c0:(0::rest).count 0=rest.count 0+1:=count_cons_self;have p0:=jm (y:=0) (by decide) rest;have k0:=jo (y:=0) (by decide) rest;have hq:=uM (rest.count 0+1);have up:∀n,n<=q1 (rest.count 0+1)*n:=λn=>Nat.le_mul_of_pos_left n hq;have a3:(l3++0::rest).count 0=rest.count 0+1/\fM (l3++0::rest)<=w1 (rest.count 0+1)+1+fM rest/\dh (l3++0::rest)<=q1 (rest.count 0+1)*dh rest:=by
  rcases h3 with rfl|⟨y,hy,rfl⟩
  .simp only[nil_append];refine⟨c0,by exact(A3 [.q Va (.a K1 Vb)] (.e Va (.a q8 Vb))) p0,?_⟩;rw[k0];exact up _
  have Ic:=g.JU hy;simp only[Th];have e1:=wk y (0::rest);have e2:=wU y (0::rest);rw[c0]at e1 e2;refine⟨by rw[Tj Ic];exact c0,by exact(A4 [.q Va (.a K1 Vb),.e Vc (.a Vd Va)] (.e Vc (.a uo Vb))) p0 e1,?_⟩;rw[k0]at e2;exact e2
 refine dW a3 λb1 b2 b3=>?_;clear a3;have a2:(l2++(l3++0::rest)).count 0=rest.count 0+1/\fM (l2++(l3++0::rest))<=w1 (rest.count 0+1)+2+fM rest/\dh (l2++(l3++0::rest))<=q1 (rest.count 0+1)*dh rest:=by
  rcases h2 with rfl|⟨y,hy,rfl⟩
  .simp only[nil_append];exact⟨b1,by exact(A3 [.e Va (.a f9 Vc)] (.e Va (.a (.a Vb K2) Vc))) b2,b3⟩
  have Ic:=g.ts y hy;simp only[Th,jm Ic.2,jo Ic.2,Tj Ic.1];exact⟨b1,by exact(A3 [.e Va (.a f9 Vc)] (.e (.a K1 Va) (.a (.a Vb K2) Vc))) b2,b3⟩
 refine dW a2 λd1 d2 d3=>?_;clear a2;rw[Uh,Uh];rcases h1 with rfl|⟨y,hy,rfl⟩
 .simp only[nil_append];exact⟨by exact(A3 [.e Va (.a (.a Vb K2) Vc)] (.e Va (.a (.a (.m 2 Vb) K2) Vc))) d2,Vz d3 (up _)⟩
 simp only[Th];have e1:=wk y (l2++(l3++0::rest));have e2:=wU y (l2++(l3++0::rest));rw[d1]at e1 e2;exact⟨by exact(A4 [.e Va (.a (.a Vb K2) Vc),.e Vd (.a Vb Va)] (.e Vd (.a (.a (.m 2 Vb) K2) Vc))) d2 e1,Vz e2 (mul_le_mul_left _ d3)⟩
def eJ.rK(g:eJ P Ts x r0 r1 r2 e2 r3 e3)(h:Ends Ts e)(rest:List Int):fM (e++0::rest)<=3+fM rest/\dh (e++0::rest)=dh rest:=by
 have p0:=jm (y:=0) (by decide) rest;have k0:=jo (y:=0) (by decide) rest;rcases h with⟨y,hy,rfl⟩|⟨y,hy,z,hz,rfl⟩
 .simp only[Th,jm (g.ts y hy).2,jo (g.ts y hy).2];exact⟨by exact(A2 [.q Va (.a K1 Vb)] (.e (.a K1 Va) (.a K3 Vb))) p0,k0⟩
 (refine Eq.substr cons_append ?_;simp only[Th];rw[jm (g.ts y hy).2,jo (g.ts y hy).2,jm (g.ts z hz).2,jo (g.ts z hz).2]);exact⟨by exact(A2 [.q Va (.a K1 Vb)] (.e (.a K1 (.a K1 Va)) (.a K3 Vb))) p0,k0⟩
theorem qw{α:Type}[DecidableEq α]:∀{l m:List α},l.Nodup->(∀y∈l,y∈m)->l.length<=m.length
 |[],_,_,_=>VO _
 |y::l,m,h,k=>by have hy:=k y (.head _);refine cu (UZ.mp h) λh1 h2=>?_;have:=qw (l:=l) (m:=m.erase y) h2 λz hz=>(mem_erase_of_ne λ(e:z=y)=>h1 (e▸hz)).mpr (k z (.tail _ hz));rw[length_erase_of_mem hy]at this;have:=length_pos_of_mem hy;refine(?_:l.length+1<=_);lia
structure G1(P:fV)(s:eC):Prop where
 gen:Gen P s
 nd:(s.within.map (·.nm)).Nodup
 H6:∀w∈s.within,w.nm∈P.names
 vL:bS s+fM s.pile<=29
 last:s.pile=[]\/s.pile=[256]\/s.pile.getLast? =some 0
 bot:∀w ws,s.within=w::ws->w.nm=256
def MO(hp:P.paired=false)(G:Gen P s)(y:Int):bV P s y=if y∈stackOf s\/2<s.within.length then[]else aL P y:=by
 refine ao G.bk λcs B q=>?_;unfold bV;rw[hp,if_neg Bool.false_ne_true];have e:f7 (bU P s y) y=ji (eO P.paired y cs s.told) (ed P s y):=by unfold bU;rw[bW _ _ B.keys,nx,if_pos rfl,B.ent]
 have e2:aI y (ah y cs)=ah y cs:=filter_eq_self.mpr λo ho=>by refine cu (UW.mp ho) λh1 h2=>?_;have h2:iX o=y:=of_decide_eq_true h2;exact Vk (h2▸q hp o h1)
 have h1:(f7 (bU P s y) y).cc=cA s y+(ah y cs).length:=by rw[e];show cA s y+((aI y (ah y cs)).length:Int)=_;rw[e2]
 have h2:(f7 (bU P s y) y).nc=1+(ah y cs).length:=by rw[e];rfl
 simp only[h1,h2];have:(cA s y+((ah y cs).length:Int)≠1+(ah y cs).length)↔y∈stackOf s:=by
  unfold cA;split
  ·rename_i h;exact⟨λ_=>h,λ_=>by exact(A1 [] (.n (.Q (.a K0 bA) (.a K1 bA))))⟩
  rename_i h;exact⟨λz=>absurd rfl z,λz=>absurd z h⟩
 by_cases hs:y∈stackOf s
 .rw[if_pos (.inl (this.mpr hs)),if_pos (.inl hs)]
 by_cases hw:2<s.within.length
 .rw[if_pos (.inr hw),if_pos (.inr hw)]
 rw[if_neg (not_or.mpr ⟨λz=>hs (this.mp z),hw⟩),if_neg (not_or.mpr ⟨hs,hw⟩)]
def G1.start(g:eJ P Ts x r0 r1 r2 e2 r3 e3):G1 P (start P) where
 gen:=.start g.g
 nd:=.nil
 H6:=λw h=>nomatch h
 vL:=by show 0+2*0+0+fM [P.n0]<=29;rw[g.n0];exact Tc rfl
 last:=.inr (.inl (by show[P.n0]=[256];rw[g.n0]))
 bot:=λw ws h=>nomatch h
def qC{rest:List Int}(hy:y≠256)(h:y::rest=[]\/y::rest=[256]\/(y::rest).getLast? =some 0):rest.getLast? =some 0\/(rest=[]/\y=0):=by
 rcases h with h|h|h
 .exact LP h
 .exact absurd (by simpa using(List.cons.inj h).1) hy
 induction rest using List.casesOn with
 |nil=>exact .inr ⟨rfl,by simpa using h⟩
 |cons z zs=>exact .inl (by rw[<-h];rfl)
def G1.eof(G:G1 P s){rest:List Int}(h:s.pile=0::rest):G1 P (de s):=by
 have cf:(de s).pile=rest:=by show s.pile.drop 1=rest;rw[h];rfl
 have hw:s.within.length≠0:=λe=>by have:=G.gen.zeros;rw[h,e]at this;simp at this
 refine⟨G.gen.eof h,?_,λw hw=>G.H6 w (dropLast_subset _ hw),?_,?_,λw ws e=>?_⟩
 .exact G.nd.sublist ((dropLast_sublist _).map _)
 .have:=G.vL;rw[h,jm (by decide)]at this;rw[cf];unfold bS at this⊢;refine(?_:s.told.length+2*(s.log++[_]).length+s.within.dropLast.length+fM rest<=29);simp only[TU,Te,Tz];exact(A4 [.n (.q Va K0),.e (.a (.a (.a Vb (.m 2 Vc)) Va) (.a K1 Vd)) (.c 29)] (.e (.a (.a (.a Vb (.m 2 q8)) jd) Vd) (.c 29))) hw this
 .have hl:=G.last;rw[h]at hl;rw[cf];rcases qC (by decide) hl with q|⟨q,_⟩
  .exact .inr (.inr q)
  exact .inl q
 replace e:s.within.dropLast=w::ws:=e;induction hs:s.within using List.casesOn with
 |nil=>rw[hs]at hw;exact absurd rfl hw
 |cons v vs=>
  rw[hs]at e;induction vs using List.casesOn with
  |nil=>exact Pl e
  |cons u us=>rw[dropLast_cons_cons]at e;rw[<-(List.cons.inj e).1];exact G.bot v _ hs
def G1.term(g:eJ P Ts x r0 r1 r2 e2 r3 e3)(G:G1 P s){y:Int}(h:s.pile=y::rest)(h0:y≠0)(h1:y<256):G1 P (cX s y):=by
 have cf:(cX s y).pile=rest:=by show s.pile.drop 1=rest;rw[h];rfl
 refine⟨G.gen.term g.g h h0 h1,G.nd,G.H6,?_,?_,G.bot⟩
 .have:=G.vL;rw[h,jm h1]at this;rw[cf];unfold bS at this⊢;refine(?_:(s.told++[_]).length+2*s.log.length+s.within.length+fM rest<=29);simp only[TU,Te];exact(A4 [.e (.a yO (.a K1 Vd)) (.c 29)] (.e (.a (.a (.a fJ (.m 2 Vb)) Vc) Vd) (.c 29))) this
 have hl:=G.last;rw[h]at hl;rw[cf];rcases qC (Int.ne_of_lt ‹_›) hl with q|⟨_,q⟩
 .exact .inr (.inr q)
 exact absurd q h0
def G1.kind(g:eJ P Ts x r0 r1 r2 e2 r3 e3)(hy:y∈P.names)(hr:r∈aL P y):yB (Ts++[256,257,x]) Ts r\/Ends Ts r:=by
 refine dW g.rights λq1 q2 q3=>?_;rw[g.names]at hy;simp only[Vr,Uz,V5]at hy;rcases hy with rfl|rfl|rfl
 .rw[q1]at hr;simp only[Vr,Uz,V5]at hr;rcases hr with rfl|rfl
  .exact .inl g.s0
  exact .inl g.s1
 .rw[q2]at hr;simp only[Vr,Uz,V5]at hr;rcases hr with rfl|rfl
  .exact .inl g.s2
  exact .inr g.e2
 rw[q3]at hr;simp only[Vr,Uz,V5]at hr;rcases hr with rfl|rfl
 .exact .inl g.s3
 exact .inr g.e3
def Gen.name(g:Gm P)(G:Gen P s)(h:s.pile=y::rest)(h1:256<=y):y∈P.names:=by
 rcases G.syms y (by rw[h];exact .head _)with q|q|q
 .lia
 .have:=(g.L3 y q).2;lia
 exact q
def Gen.D6(G:Gen P s)(h:s.pile=y::rest)(h0:y≠0):rest.count 0=s.within.length:=by
 have:=G.zeros
 rwa [h,Tj h0]at this
def jR(h:s.pile=y::rest)(r:List Int):(cq P s y r).pile=r++0::rest:=by refine(?_:r++[0]++s.pile.drop 1=_);rw[h,Uh];rfl
def G1.call(g:eJ P Ts x r0 r1 r2 e2 r3 e3)(hp:P.paired=false)(G:G1 P s)(h:s.pile=y::rest)(h1:256<=y)(hr:r∈bV P s y):G1 P (cq P s y r):=by
 rw[MO hp G.gen]at hr;split at hr
 .exact pL hr
 rename_i hn;refine cu (not_or.mp hn) λw8 uu=>?_;have vM:=G.gen.name g.g h h1;have hz:=G.gen.D6 h ((I1 [.E rX Qa] (.n (.Q Qa K0))) h1);have cf:=jR (P:=P) h r;refine⟨G.gen.call g.g h h1 hr λ_=>w8,?_,λw hw=>?_,?_,?_,λw ws e=>?_⟩
 .refine(?_:((s.within++[(⟨y,s.told.length,callsOf s⟩:Wi)]).map (·.nm)).Nodup);rw[UT,Uq];refine⟨G.nd,by simp,λa ha b hb e=>?_⟩;have hb:b=y:=by simpa using hb
  subst hb e;exact w8 (TB _ ha)
 .rcases UU.mp hw with hw|hw
  .exact G.H6 w hw
  rw[TX.mp hw];exact vM
 .have kL:=G.vL;rw[h,GB h1,hz]at kL;rw[cf];unfold bS at kL⊢;refine(?_:s.told.length+2*s.log.length+(s.within++[_]).length+fM (r++0::rest)<=29);simp only[TU,Te];have hw:s.within.length=0\/s.within.length=1\/s.within.length=2:=by lia
  rcases G1.kind g vM hr with q|q
  .have:=(g.z7 q rest).1;rw[hz]at this;rcases hw with e|e|e<;>rw[e]at this kL<;>simp only[w1]at this kL<;>simp at this kL<;>lia
  have:=(g.rK q rest).1;rcases hw with e|e|e<;>rw[e]at kL<;>simp only[w1]at kL<;>simp at kL<;>lia
 .have hl:=G.last;rw[h]at hl;rw[cf];refine .inr (.inr ?_);have e:(r++0::rest).getLast? =(0::rest).getLast? :=by simp[getLast?_append,getLast?_cons]
  rw[e];rcases hl with q|q|q
  .exact LP q
  .rw[(List.cons.inj q).2];rfl
  induction rest using List.casesOn with
  |nil=>rfl
  |cons z zs=>rw[<-q];rfl
 replace e:s.within++[(⟨y,s.told.length,callsOf s⟩:Wi)]=w::ws:=e;induction hs:s.within using List.casesOn with
 |nil=>
  rw[hs]at e;rw[<-(List.cons.inj e).1];have hl:=G.last;rw[hs]at hz;have:(y::rest)=[256]:=by
   rw[h]at hl;rcases hl with q|q|q
   .exact LP q
   .exact q
   exfalso;have:(0:Int)∈y::rest:=mem_of_getLast? q;rcases Vr.mp this with q|q
   .exact(I1 [.E rX Qa,.Q K0 Qa] .f) h1 q
   have:=count_pos_iff.mpr q;simp at hz;exact alt this (V7 hz)
  exact(List.cons.inj this).1
 |cons v vs=>rw[hs]at e;rw[<-(List.cons.inj e).1];exact G.bot v vs hs
end
section
variable{P:fV}{Ts:List Int}{x:Int}{r0 r1 r2 e2 r3 e3:List Int}
def jB(h:t∈br P s):∃y rest,s.pile=y::rest/\((y=0/\t=de s)\/(y≠0/\y<256/\t=cX s y)\/(256<=y/\∃r∈bV P s y,t=cq P s y r)):=by
 unfold br at h;induction hp:s.pile using List.casesOn with
 |nil=>rw[hp]at h;exact pL h
 |cons y rest=>
  rw[hp]at h;dsimp only at h;refine sQ y rest rfl ?_;split at h
  .rename_i q;exact .inl ⟨q,TX.mp h⟩
  rename_i q;split at h
  .rename_i q2;exact .inr (.inl ⟨q,q2,TX.mp h⟩)
  rename_i q2;refine ao (VB.mp h) λr hr e=>?_;exact .inr (.inr ⟨by exact V0.mp ‹_›,r,hr,e.symm⟩)
def qx(h:s.pile=[]):br P s=[]:=by unfold br;rw[h]
def ml(h:s.pile=0::rest):br P s=[de s]:=by unfold br;rw[h];rfl
def kr(h:s.pile=y::rest)(h0:y≠0)(h1:y<256):br P s=[cX s y]:=by unfold br;rw[h];dsimp only;(refine V3 (if_neg h0) ?_;exact(if_pos h1))
def ku(h:s.pile=y::rest)(h1:256<=y):br P s=(bV P s y).map (cq P s y):=by unfold br;rw[h];dsimp only;(refine V3 (if_neg ((I1 [.E rX Qa] (.n (.Q Qa K0))) h1)) ?_;exact(if_neg (V0.mpr ‹_›)))
def ip(hz:s.pile.count 0=s.within.length)(h:t∈br P s):bS t=bS s+1:=by
 refine d4 (jB h) λy rest hp q=>?_;unfold bS;rcases q with⟨rfl,rfl⟩|⟨_,_,rfl⟩|⟨_,r,_,rfl⟩
 .have:s.within.length≠0:=λe=>by rw[hp,e]at hz;simp at hz
  refine(?_:s.told.length+2*(s.log++[_]).length+s.within.dropLast.length=_);simp only[TU,Te,Tz];exact(A3 [.n (.q Va K0)] (.q (.a (.a Vb (.m 2 q8)) jd) (.a (.a (.a Vb (.m 2 Vc)) Va) K1))) this
 .refine(?_:(s.told++[_]).length+2*s.log.length+s.within.length=_);simp only[TU,Te];exact(A3 [] (.q (.a (.a fJ (.m 2 Vb)) Vc) (.a yO K1)))
 refine(?_:s.told.length+2*s.log.length+(s.within++[_]).length=_);simp only[TU,Te];rfl
def G1.next(g:eJ P Ts x r0 r1 r2 e2 r3 e3)(hp:P.paired=false)(G:G1 P s)(h:t∈br P s):G1 P t:=by
 refine d4 (jB h) λy rest pg q=>?_;rcases q with⟨rfl,rfl⟩|⟨a,b,rfl⟩|⟨a,r,hr,rfl⟩
 .exact G.eof pg
 .exact G.term g pg a b
 exact G.call g hp pg a hr
def G1.cond(hp:P.paired=false)(G:G1 P s):sY P s:=by
 refine G.gen.cond ?_ λy p _ _ q=>by rw[hp]at q;exact fR q
 have h1:=G.vL;have h2:=AS s.pile;exact(A3 [.e sd (.c 29),.e Vc Vb] (.e (.a Va Vc) (.c 75))) h1 h2
def G1.cnt(g:eJ P Ts x r0 r1 r2 e2 r3 e3)(hp:P.paired=false)(G:G1 P s):((outs P s).length:Int)+((br P s).map λt=>((dh t.pile:Nat):Int)).sum<=dh s.pile:=by
 induction h:s.pile using List.casesOn with
 |nil=>rw[qx h];unfold outs;rw[if_pos h];exact VT _
 |cons y rest=>
  have ho:outs P s=[]:=by unfold outs;rw[if_neg (by rw[h];simp)]
  rw[ho];refine(?_:((0:Nat):Int)+_<=_);by_cases h0:y=0
  .subst h0;have cf:(de s).pile=rest:=by show s.pile.drop 1=rest;rw[h];rfl
   rw[ml h,jo (by decide)];simp[cf]
  by_cases h1:y<256
  .have cf:(cX s y).pile=rest:=by show s.pile.drop 1=rest;rw[h];rfl
   rw[kr h h0 h1,jo h1];simp[cf]
  have h1:256<=y:=by exact V0.mp ‹_›
  rw[ku h h1,Hp h1,MO hp G.gen];by_cases hn:y∈stackOf s\/2<s.within.length
  .rw[if_pos hn];simp only[VG,VJ];exact TY _
  rw[if_neg hn];refine cu (not_or.mp hn) λw8 uu=>?_;have vM:=G.gen.name g.g h h1;have hz:=G.gen.D6 h ((I1 [.n (.Q Qa K0)] (.n (.Q Qa K0))) h0);rw[VA];have e:((λt:eC=>((dh t.pile:Nat):Int))∘cq P s y)=λr=>((dh (r++0::rest):Nat):Int):=by funext r;refine(?_:((dh (cq P s y r).pile:Nat):Int)=_);rw[jR h]
  rw[e,hz];refine dW g.rights λa1 a2 a3=>?_;have hw:s.within.length=0\/s.within.length=1\/s.within.length=2:=by lia
  have key:∀n:Nat,s.within.length=n->n<=2->∀r,yB (Ts++[256,257,x]) Ts r->dh (r++0::rest)<=q1 (n+1)*(q1 (n+1)*dh rest):=λn hn _ r hr=>by have:=(g.z7 hr rest).2;rw[hz,hn]at this;exact this
  have RF:1<=dh rest:=tM rest;rw[g.names]at vM;simp only[Vr,Uz,V5]at vM;rcases vM with rfl|rfl|rfl
  .have Ie:s.within=[]:=by
    induction hs:s.within using List.casesOn with
    |nil=>rfl
    |cons w ws=>exfalso;apply w8;have:=G.bot w ws hs;unfold stackOf;simp only[hs,Vt,this];exact .tail _ (.head _)
   rw[a1,Ie];have k1:=key 0 (by rw[Ie];rfl) (VO _) r0 g.s0;have k2:=key 0 (by rw[Ie];rfl) (VO _) r1 g.s1;simp only[Vt,VG,Vv,VJ,U7,q1]at k1 k2⊢;simp at k1 k2⊢;exact(A3 [.e Va (.m 5 (.m 5 Vb)),.e Vc (.m 5 (.m 5 Vb))] (.E (.a bA (.o Vc)) (.m 50 ew))) k1 k2
  .rw[a2];have k2:=(g.rK g.e2 rest).2;rcases hw with e|e|e<;>rw[e]<;>have k1:=key _ e (U2 _ _) r2 g.s2<;>simp only[Vt,VG,Vv,VJ,q1,k2]at k1⊢<;>simp at k1⊢<;>lia
  rw[a3];have k2:=(g.rK g.e3 rest).2;rcases hw with e|e|e<;>rw[e]<;>have k1:=key _ e (U2 _ _) r3 g.s3<;>simp only[Vt,VG,Vv,VJ,q1,k2]at k1⊢<;>simp at k1⊢<;>lia
def CW(l:List eC)(f:eC->Int)(k:Int):(l.map λt=>f t*k).sum=(l.map f).sum*k:=by
 induction l with
 |nil=>simp
 |cons a l ih=>simp only[Vt,Vv,ih,Vt,Vv,Int.add_mul]
def G1.steps(g:eJ P Ts x r0 r1 r2 e2 r3 e3)(hp:P.paired=false)(G:G1 P s):1+((br P s).map λt=>((dh t.pile:Nat):Int)*(30 - bS t)).sum<=(dh s.pile:Int)*(30 - bS s):=by
 have h1:=G.cnt g hp;have e:((br P s).map λt=>((dh t.pile:Nat):Int)*(30 - bS t))=(br P s).map λt=>((dh t.pile:Nat):Int)*(29 - bS s):=TK λt ht=>by rw[ip G.gen.zeros ht];congr 1;exact(A1 [] (.Q (.s (.c 30) (.o fJ)) (.s (.c 29) bA)))
 rw[e,CW];have h2:=G.vL;have h3:=tM s.pile;have h4:((br P s).map λt=>((dh t.pile:Nat):Int)).sum*(29 - bS s)<=(dh s.pile:Int)*(29 - bS s):=Sn ((ar 2 3 [_,_] [_] [.E (.a bA Qa) ew] (.E Qa ew)) h1) ((A2 [.e sd (.c 29)] (.E K0 (.s (.c 29) bA))) h2);have h5:(dh s.pile:Int)*(30 - bS s)=(dh s.pile:Int)*(29 - bS s)+dh s.pile:=by simp only[show(30 - (bS s:Int))=(29 - bS s)+1 by exact(A1 [] (.Q (.s (.c 30) bA) (.a (.s (.c 29) bA) K1))),Int.mul_add,Int.mul_one]
 exact(ar 1 6 [_] [_,_,_] [.e K1 Va,.E Qa Qb,.Q Qc (.a Qb bA)] (.E (.a K1 Qa) Qc)) h3 h4 h5
inductive B2(R:List fN)(sp:Sp):List Int->List Int->List Nat->Prop where
 |nil {st:List Int}:B2 R sp st [] []
 |eof {st:List Int} {n:Int} {rest:List Int} {u:List Nat}:B2 R sp st rest u->B2 R sp (st++[n]) (0::rest) u
 |sign {st:List Int} {y:Int} {c:Nat} {rest:List Int} {u:List Nat}:look sp y=some c->B2 R sp st rest u->B2 R sp st (y::rest) (c::u)
 |call {st:List Int} {y:Int} {r rest:List Int} {u:List Nat}:y∉st->(y,r)∈R->B2 R sp (st++[y]) (r++0::rest) u->B2 R sp st (y::rest) u
def GL(h:vS R sp av xs t):∀(st rest:List Int) (u:List Nat),(∀y,y∈st->y∈av)->B2 R sp st rest u->B2 R sp st (xs++rest) (t++u):=by
 induction h with
 |nil=>intro st rest u _ k;exact k
 |sign e _ ih=>intro st rest u q k;exact .sign e (ih st rest u q k)
 | @call av y r xs t u hy hr _ _ Ia DX=>
  intro st rest v q k;have k2:=DX st rest v q k;have k3:=Ia (st++[y]) (0::(xs++rest)) (u++v) (λz hz=>by
   rcases UU.mp hz with hz|hz
   .exact .tail _ (q z hz)
   .rw[TX.mp hz];exact .head _) (.eof k2)
  rw[Uh];exact .call (λhz=>hy (q y hz)) hr k3
def Df(g:eJ P Ts x r0 r1 r2 e2 r3 e3)(hp:P.paired=false){L:List eC}(hL:∀s∈L,G1 P s/\∀t∈br P s,t∈L){st pile:List Int}(h:B2 P.rules P.sp st pile u):
 ∀s∈L,s.within.map (·.nm)=st->s.pile=pile->∃q∈L,q.pile=[]/\textOf P.sp q.told=textOf P.sp s.told++u:=by
 induction h with
 |nil=>intro s hs e1 e2;exact dG s hs e2 ((UX _).symm)
 | @eof st n rest u _ ih=>intro s hs e1 e2;have ht:de s∈L:=(hL s hs).2 _ (by rw[ml e2];exact .head _);exact ih (de s) ht (by refine(?_:s.within.dropLast.map (·.nm)=st);simp only[map_dropLast,e1,dropLast_concat]) (by show s.pile.drop 1=rest;rw[e2];rfl)
 | @sign st y c rest u e _ ih=>intro s hs e1 e2;refine cu (g.g.L3 y (by rw[e];rfl)) λb1 b2=>?_;have ht:cX s y∈L:=(hL s hs).2 _ (by rw[kr e2 b1 b2];exact .head _);refine bq (ih _ ht e1 (by show s.pile.drop 1=rest;rw[e2];rfl)) λq h1 h2 h3=>?_;refine dG q h1 h2 (h3.trans ?_);refine(?_:textOf P.sp (s.told++[(y,aW s)])++u=_);unfold textOf;simp only[UT,Uh,show[(y,aW s)].map (λp=>(look P.sp p.1).getD 0)=[c] by simp[e]];rfl
 | @call st y r rest u hy hr _ ih=>
  intro s hs e1 e2;refine cu (hL s hs) λG hn=>?_;have vM:=g.left hr;have h1:=g.g.nm y vM;have yw:r∈bV P s y:=by
   rw[MO hp G.gen,if_neg]
   .exact oU.mpr hr
   refine not_or.mpr ⟨λz=>?_,?_⟩
   .unfold stackOf at z;rw[e1]at z;rcases Vr.mp z with z|z
    .exact(I1 [.E rX Qa,.Q Qa K0] .f) h1 z
    exact hy z
   have jW:(y::s.within.map (·.nm)).Nodup:=UZ.mpr ⟨by rw[e1];exact hy,G.nd⟩;have:=qw (m:=P.names) jW λz hz=>by
    rcases Vr.mp hz with rfl|hz
    .exact vM
    (refine ao (VB.mp hz) λw hw aB=>?_;clear hz;subst aB);exact G.H6 w hw
   rw[g.names,Ux,US]at this;simp only[Ux,U7]at this;exact Nat.not_le_of_lt ‹_›
  have ht:cq P s y r∈L:=hn _ (by rw[ku e2 h1];exact VB.mpr ⟨r,yw,rfl⟩);exact ih (cq P s y r) ht (by refine(?_:(s.within++[(⟨y,s.told.length,callsOf s⟩:Wi)]).map (·.nm)=st++[y]);rw[UT,e1];rfl) (jR e2 r)
structure Ay(P:fV)(out:List Out):Prop where
 ok:vg P out
 v5:∀o∈out,o.noted=o.due
 len:∀o∈out,o.text.length<=40
 chr:∀o∈out,∀c∈o.text,∃y,look P.sp y=some c
 snd:∀o∈out,∃m,jF P.rules P.sp m [P.n0] o.text
def ET(g:eJ P Ts x r0 r1 r2 e2 r3 e3)(h:P.picks.length<=10)(hr:∀r∈P.rules,r.2.length<=100):sZ P where
 names:=by rw[g.names];show 3<=10;exact Tc rfl
 hn:=by rw[g.names,g.n0];rfl
 rules:=by rw[g.rules];show 6<=100;exact Tc rfl
 rights:=hr
 picks:=h
def wQ(h:jF R sp n xs t):∀c∈t,∃y,look sp y=some c:=by
 induction h with
 |nil=>intro c h;exact pL h
 |sign e _ ih=>
  intro c hc;rcases Vr.mp hc with rfl|hc
  .exact⟨_,e⟩
  exact ih c hc
 |call _ _ _ Ia DX=>
  intro c hc;rcases UU.mp hc with hc|hc
  .exact Ia c hc
  exact DX c hc
def dX:o∈wholeOf P L↔∃s∈L,s.pile=[]/\o=mG P s:=by
 unfold wholeOf;rw[UI];constructor
 .intro bx;refine ao bx λs hs ho=>?_;unfold outs at ho;split at ho
  .rename_i q;exact dG s hs q (TX.mp ho)
  exact pL ho
 intro bx;obtain⟨s,hs,q,rfl⟩:=bx;refine bH s hs ?_;unfold outs;rw[if_pos q];exact .head _
def names0(g:eJ P Ts x r0 r1 r2 e2 r3 e3):(0:Int)∉P.names:=λh=>by have:=g.g.nm 0 h;exact(λn=>(negSucc_not_nonneg n).mp) 255 this
def C4(g:eJ P Ts x r0 r1 r2 e2 r3 e3)(hp:P.paired=false)(cp:sZ P):∃out,Ay P out/\out.length<=50/\∀t,vS P.rules P.sp [] [256] t->∃o∈out,o.text=t:=by
 have h0:=G1.start g;have hn:∀s,G1 P s->∀t∈br P s,G1 P t:=λs G t ht=>G.next g hp ht;have OQ:((dh (start P).pile:Nat):Int)=50:=by refine(?_:((dh [P.n0]:Nat):Int)=50);rw[g.n0];rfl
 refine ao (tS (Good:=G1 P) (start P) h0 hn (λt=>((dh t.pile:Nat):Int)*(30 - bS t)) (λs G=>G.steps g hp) λs G=>Int.mul_nonneg (TY _) (by have:=G.vL;exact(A2 [.e sd (.c 29)] (.E K0 (.s (.c 30) bA))) this)) λN hN BZ=>?_;have MD:bS (start P)=0:=rfl;rw[OQ,MD]at BZ;have jZ:=jy (P:=P) (start P) h0 hn N;have Dz:∀s∈eI P (start P) N,G1 P s/\∀t∈br P s,t∈eI P (start P) N:=λs hs=>by refine aO (mem_iff_getElem?.mp hs) λj hj=>?_;have cB:=(SF.mp hj).1;exact⟨jZ s hs,vK (start P) N j s (T1 cB hN) hj⟩
 refine dG (wholeOf P (eI P (start P) N)) ⟨⟨cp,G1 P,N,h0,λs G=>⟨G.cond hp,hn s G⟩,hN,by exact(A1 [.E bA (.m 50 (.s (.c 30) (.o K0)))] (.e Va (.c 100000))) BZ,rfl⟩,λo ho=>?_,λo ho=>?_,λo ho=>?_,λo ho=>?_⟩ ?_ (λt ht=>?_)
 .obtain⟨s,hs,q,rfl⟩:=dX.mp ho;exact(jZ s hs).gen.book q (names0 g)
 .obtain⟨s,hs,q,rfl⟩:=dX.mp ho;have:=(jZ s hs).vL;unfold bS at this;refine(?_:(s.told.map _).length<=40);rw[US];exact(A4 [.e (.a yO Vd) (.c 29)] (.e Va (.c 40))) this
 .obtain⟨s,hs,q,rfl⟩:=dX.mp ho;refine aO ((jZ s hs).gen.lx q) λm hm=>?_;exact wQ hm
 .obtain⟨s,hs,q,rfl⟩:=dX.mp ho;exact(jZ s hs).gen.lx q
 .have:=nu (Good:=G1 P) (start P) h0 hn (λt=>((dh t.pile:Nat):Int)) (λs=>((outs P s).length:Int)) (λs G=>G.cnt g hp) N (VH (V7 hN));rw[OQ,SU (VH hN),<-md,SV (VH hN)]at this;simp only[VG,VJ]at this;exact VI.mp ‹_›
 have k:=GL ht [] [] [] (λy h=>h) .nil;rw[UX]at k;refine bq (Df g hp Dz k (start P) (yp (start P) N) rfl (by show[P.n0]=[256]++[];rw[g.n0];rfl)) λq hq e1 e2=>?_;refine bH (mG P q) (dX.mpr ⟨q,hq,e1,rfl⟩) ?_;refine(?_:textOf P.sp q.told=t);rw[e2];exact UX _
end
section
variable{P:fV}{Ts:List Int}{x:Int}{r0 r1 r2 e2 r3 e3:List Int}
noncomputable def v2(y:Int):Nat:=if y<256 then 1 else if y=256 then 11 else 4
noncomputable def t2(y:Int):Nat:=if y=0 then 0 else if y<256 then 1 else if y=256 then 5 else 2
noncomputable def wt(f:Int->Nat)(l:List Int):Nat:=(l.map f).sum
def fW(f:Int->Nat)(y:Int)(l:List Int):wt f (y::l)=f y+wt f l:=by unfold wt;simp only[Vt,Vv]
def rh(f:Int->Nat)(l m:List Int):wt f (l++m)=wt f l+wt f m:=by unfold wt;(refine Eq.substr UT ?_;exact sum_append_nat)
def Gk:∀l,l.length<=wt v2 l:=by
 intro l';induction l' with
 |nil=>exact VO _
 |cons y l aU=>
  exact by
   have:=aU;rw[fW];have:1<=v2 y:=by unfold v2;split<;>(try split)<;>exact VC _
   refine(?_:l.length+1<=_);exact(A3 [.e Va Vb,.e K1 Vc] (.e fJ (.a Vc Vb))) aU this
def rn{M m:Nat}{Sy r:List Int}(h:yB Sy Ts r)(h1:∀y∈r,f y<=M)(h2:∀t∈Ts,f t<=m):wt f r<=2*M+m:=by
 (refine cQ h λl1 l2 l3 aB a b c=>?_;clear h;subst aB);have one:∀l:List Int,(∀y∈l,f y<=M)->(l=[]\/∃y∈Sy,l=[y])->wt f l<=M:=λl k q=>by
  rcases q with rfl|⟨y,_,rfl⟩
  .exact VO _
  have:=k y (.head _);rw[fW];show f y+0<=M;exact(A2 [.e Va Vb] (.e (.a Va K0) Vb)) this
 have k1:=one l1 (λy hy=>h1 y (Tr _ hy)) a;have k3:=one l3 (λy hy=>h1 y (Tf _ (Tf _ hy))) c;have k2:wt f l2<=m:=by
  rcases b with rfl|⟨y,hy,rfl⟩
  .exact VO _
  have:=h2 y hy;rw[fW];show f y+0<=m;exact(A2 [.e Va Vb] (.e (.a Va K0) Vb)) this
 rw[rh,rh];exact(A5 [.e Va Vb,.e Vc Vb,.e Vd Ve] (.e (.a Va (.a Vd Vc)) (.a (.m 2 Vb) Ve))) k1 k3 k2
def nr(h:Ends Ts e)(h2:∀t∈Ts,f t<=m):wt f e<=2*m:=by
 rcases h with⟨y,hy,rfl⟩|⟨y,hy,z,hz,rfl⟩
 .have:=h2 y hy;rw[fW];show f y+0<=_;exact(A2 [.e Va Vb] (.e (.a Va K0) (.m 2 Vb))) this
 have:=h2 y hy;have:=h2 z hz;rw[fW,fW];show f y+(f z+0)<=_;lia
def JP(y:Int):v2 y<=11:=by unfold v2;split<;>(try split)<;>exact U2 _ _
def JT(y:Int):t2 y<=5:=by unfold t2;split<;>(try split)<;>(try split)<;>exact U2 _ _
def JO(h:y≠256):v2 y<=4:=by unfold v2;split<;>(try split)<;>exact U2 _ _
def JS(h:y≠256):t2 y<=2:=by unfold t2;split<;>(try split)<;>(try split)<;>exact U2 _ _
def II(h:y<256):v2 y=1:=by unfold v2;rw[if_pos h]
def MX(h:y<256):t2 y<=1:=by unfold t2;split<;>(try split)<;>exact U2 _ _
structure G2(P:fV)(s:eC):Prop where
 gen:Gen P s
 vL:bS s+wt v2 s.pile+21*(3 - callsOf s)<=74
 txt:s.told.length+wt t2 s.pile+9*(3 - callsOf s)<=32
noncomputable def mO(P:fV):Prop:=P.picks.length=3/\∀k∈P.picks,k=0\/k=1
def mO.paired(h:mO P):P.paired=true:=by
 unfold fV.paired;induction e:P.picks using List.casesOn with
 |nil=>have:=h.1;rw[e]at this;(exfalso;cases this)
 |cons a l=>rfl
def wh(g:eJ P Ts x r0 r1 r2 e2 r3 e3)(h:y∈P.names):∃a b,aL P y=[a,b]/\(y=256->a=r0)/\(y≠256->Ends Ts b):=by
 refine dW g.rights λq1 q2 q3=>?_;have hx:=g.hx;rw[g.names]at h;simp only[Vr,Uz,V5]at h;rcases h with rfl|rfl|rfl
 .exact gT _ _ q1 (λ_=>rfl) (λz=>absurd rfl z)
 .exact gT _ _ q2 (λz=>absurd z (by decide)) (λ_=>g.e2)
 exact gT _ _ q3 (λz=>by lia) (λ_=>g.e3)
def Aa(g:eJ P Ts x r0 r1 r2 e2 r3 e3)(hk:mO P)(s:eC)(y:Int):(callsOf s<3/\(pickOf P s y=0\/pickOf P s y=1))\/(3<=callsOf s/\pickOf P s y=if y=256 then 0 else 1):=by
 unfold pickOf;rw[hk.1];split
 ·rename_i h;refine .inl ⟨h,hk.2 _ ?_⟩;rw[Su,SK (by have:=hk.1;exact T1 h (V7 this))];exact UH _
 rename_i h;rw[g.n0];exact .inr ⟨by exact UJ ‹_›,rfl⟩
def go2(g:eJ P Ts x r0 r1 r2 e2 r3 e3)(hk:mO P)(hy:y∈P.names):∃r∈aL P y,bV P s y=[r]/\(3<=callsOf s->(y=256->r=r0)/\(y≠256->Ends Ts r)):=by
 refine bZ (wh g hy) λa b e h1 h2=>?_;unfold bV;(refine Eq.substr (if_pos hk.paired) ?_;refine Eq.substr e ?_);rcases Aa g hk s y with⟨h,q|q⟩|⟨h,q⟩
 .rw[q];exact dG a (.head _) rfl (λz=>by lia)
 .rw[q];exact dG b (.tail _ (.head _)) rfl (λz=>by lia)
 rw[q];by_cases hy:y=256
 .rw[if_pos hy];exact dG a (.head _) rfl (λ_=>⟨h1,λz=>absurd hy z⟩)
 rw[if_neg hy];exact dG b (.tail _ (.head _)) rfl (λ_=>⟨λz=>absurd z hy,h2⟩)
def G2.start(g:eJ P Ts x r0 r1 r2 e2 r3 e3):G2 P (start P) where
 gen:=.start g.g
 vL:=by show 0+2*0+0+wt v2 [P.n0]+21*(3 - (0+0))<=74;rw[g.n0];exact Tc rfl
 txt:=by show 0+wt t2 [P.n0]+9*(3 - (0+0))<=32;rw[g.n0];exact Tc rfl
def G2.next(g:eJ P Ts x r0 r1 r2 e2 r3 e3)(hk:mO P){s t:eC}(G:G2 P s)(h:t∈br P s):G2 P t:=by
 refine d4 (jB h) λy rest pg q=>?_;have kL:=G.vL;have y8:=G.txt;rw[pg,fW]at kL y8;rcases q with⟨rfl,rfl⟩|⟨h0,h1,rfl⟩|⟨h1,r,hr,rfl⟩
 .have cf:(de s).pile=rest:=by show s.pile.drop 1=rest;rw[pg];rfl
  have hd:=ip G.gen.zeros h;have hw:s.within.length≠0:=λe=>by have:=G.gen.zeros;rw[pg,e]at this;simp at this
  have hc:callsOf (de s)=callsOf s:=by refine(?_:(s.log++[_]).length+s.within.dropLast.length=s.log.length+s.within.length);simp only[TU,Te,Tz];exact(A2 [.n (.q Va K0)] (.q (.a f9 jd) (.a Vb Va))) hw
  refine⟨G.gen.eof pg,?_,?_⟩
  .simp only[hd,cf,hc];have:v2 0=1:=rfl;exact(A4 [.e LK (.c 74),.q Vb K1] (.e (.a (.a fJ Vc) (.m 21 (.s K3 Vd))) (.c 74))) kL this
  rw[cf,hc];show s.told.length+_+_<=_;have:t2 0=0:=rfl;exact(A4 [.e LJ (.c 32)] (.e (.a (.a Va Vc) (.m 9 (.s K3 Vd))) (.c 32))) y8
 .have cf:(cX s y).pile=rest:=by show s.pile.drop 1=rest;rw[pg];rfl
  have hd:=ip G.gen.zeros h;have hc:callsOf (cX s y)=callsOf s:=rfl;have hv:=II h1;have ht:t2 y=1:=by unfold t2;(refine V3 (if_neg h0) ?_;exact(if_pos h1))
  refine⟨G.gen.term g.g pg h0 h1,?_,?_⟩
  .simp only[hd,cf,hc];exact(A4 [.e LK (.c 74),.q Vb K1] (.e (.a (.a fJ Vc) (.m 21 (.s K3 Vd))) (.c 74))) kL hv
  rw[cf,hc];refine(?_:(s.told++[_]).length+_+_<=_);simp only[TU,Te];exact(A4 [.e LJ (.c 32),.q Vb K1] (.e (.a (.a fJ Vc) (.m 9 (.s K3 Vd))) (.c 32))) y8 ht
 have vM:=G.gen.name g.g pg h1;refine bq (go2 g hk (s:=s) vM) λr' uj e h3=>?_;rw[e,TX]at hr;subst hr;have cf:=jR (P:=P) pg r;have hd:=ip G.gen.zeros h;have hc:callsOf (cq P s y r)=callsOf s+1:=by refine(?_:s.log.length+(s.within++[_]).length=s.log.length+s.within.length+1);simp only[TU,Te];rfl
 have hT:∀t∈Ts,v2 t<=1:=λt ht=>by rw[II (g.ts t ht).2];exact VP _
 have hU:∀t∈Ts,t2 t<=1:=λt ht=>MX (g.ts t ht).2;have Qk:v2 0=1:=rfl;have Qr:t2 0=0:=rfl;have Oq:4<=v2 y:=by unfold v2;rw[if_neg (V0.mpr ‹_›)];split<;>exact U2 _ _
 have DZ:2<=t2 y:=by unfold t2;rw[if_neg (by exact(I1 [.E rX Qa] (.n (.Q Qa K0))) h1),if_neg (by exact V0.mpr ‹_›)];split<;>exact U2 _ _
 have any:wt v2 r<=23/\wt t2 r<=11:=by
  rcases G1.kind g vM uj with q|q
  .exact⟨rn q (λy _=>JP y) hT,rn q (λy _=>JT y) hU⟩
  have:=nr q hT;have:=nr q hU;lia
 have IY:3<=callsOf s->wt v2 r+2<=v2 y/\wt t2 r<=t2 y:=λz=>by
  refine cu (h3 z) λa b=>?_;by_cases hy:y=256
  .have e:=a hy;subst e;have k1:=rn (f:=v2) g.s0 (λy hy=>JO λe=>g.no (e▸hy)) hT;have k2:=rn (f:=t2) g.s0 (λy hy=>JS λe=>g.no (e▸hy)) hU;have e1:v2 y=11:=by rw[hy];rfl
   have e2:t2 y=5:=by rw[hy];rfl
   exact(A4 [.e Va (.a (.m 2 K4) K1),.e Vb (.a (.m 2 K2) K1),.q Vc (.c 11),.q Vd (.c 5)] (.a (.e (.a Va K2) Vc) (.e Vb Vd))) k1 k2 e1 e2
  have k1:=nr (b hy) hT;have k2:=nr (b hy) hU;exact(A4 [.e K4 Va,.e K2 Vb,.e Vc (.m 2 K1),.e Vd (.m 2 K1)] (.a (.e (.a Vc K2) Va) (.e Vd Vb))) Oq DZ k1 k2
 refine⟨G.gen.call g.g pg h1 uj λz=>(by rw[hk.paired]at z;exact Ht z),?_,?_⟩
 .simp only[hd,cf,hc,rh,fW,Qk];by_cases z:3<=callsOf s
  .have:=IY z;exact(ar 7 13 [_,_,_,_,_,_,_] [] [.e LK (.c 74),.a (.e (.a Ve K2) Vb) (.e Vf Vg)] (.e (.a (.a fJ (.a Ve (.a K1 Vc))) (.m 21 (.s K3 uo))) (.c 74))) kL this
  exact(A6 [.e LK (.c 74),.e K4 Vb,.a (.e Ve (.c 23)) (.e Vf (.c 11)),.n (.e K3 Vd)] (.e (.a (.a fJ (.a Ve (.a K1 Vc))) (.m 21 (.s K3 uo))) (.c 74))) kL Oq any z
 simp only[cf,hc,rh,fW,Qr];refine(?_:s.told.length+_+_<=_);by_cases z:3<=callsOf s
 .have:=IY z;exact(ar 7 13 [_,_,_,_,_,_,_] [] [.e LJ (.c 32),.a (.e (.a Ve K2) Vf) (.e Vg Vb)] (.e (.a (.a Va (.a Vg (.a K0 Vc))) (.m 9 (.s K3 uo))) (.c 32))) y8 this
 exact(A6 [.e LJ (.c 32),.e K2 Vb,.a (.e Ve (.c 23)) (.e Vf (.c 11)),.n (.e K3 Vd)] (.e (.a (.a Va (.a Vf (.a K0 Vc))) (.m 9 (.s K3 uo))) (.c 32))) y8 DZ any z
def G2.cond(g:eJ P Ts x r0 r1 r2 e2 r3 e3)(hk:mO P)(G:G2 P s):sY P s:=by
 refine G.gen.cond ?_ λy p pg h1 _=>?_
 .have h1:=G.vL;have h2:=Gk s.pile;exact(A4 [.e (.a sd (.m 21 (.s K3 Vc))) (.c 74),.e Vd Vb] (.e (.a Va Vd) (.c 75))) h1 h2
 have vM:=G.gen.name g.g pg h1;refine d4 (wh g vM) λa b e _=>?_;rw[e];refine(?_:0<=pickOf P s y/\pickOf P s y<2);rcases Aa g hk s y with⟨_,q|q⟩|⟨_,q⟩
 .rw[q];decide
 .rw[q];decide
 rw[q];split<;>decide
def G2.one(g:eJ P Ts x r0 r1 r2 e2 r3 e3)(hk:mO P)(G:G2 P s):(outs P s).length+(br P s).length=1:=by
 induction h:s.pile using List.casesOn with
 |nil=>rw[qx h];unfold outs;rw[if_pos h];rfl
 |cons y rest=>
  have ho:outs P s=[]:=by unfold outs;rw[if_neg (by rw[h];simp)]
  rw[ho];by_cases h0:y=0
  .subst h0;rw[ml h];rfl
  by_cases h1:y<256
  .rw[kr h h0 h1];rfl
  have h1:256<=y:=by exact V0.mp ‹_›
  refine bq (go2 g hk (s:=s) (G.gen.name g.g h h1)) λr _ e _=>?_;rw[ku h h1,e];rfl
def C3(g:eJ P Ts x r0 r1 r2 e2 r3 e3)(hk:mO P)(cp:sZ P):∃out,Ay P out/\out.length=1:=by
 have h0:=G2.start g;have hn:∀s,G2 P s->∀t∈br P s,G2 P t:=λs G t ht=>G.next g hk ht;have MD:bS (start P)=0:=rfl;refine ao (tS (Good:=G2 P) (start P) h0 hn (λt=>75 - (bS t:Int)) (λs G=>by
  have h1:=G.one g hk;have h2:=G.vL;induction e:br P s using List.casesOn with
  |nil=>simp only[VG,VJ];exact(A3 [.e (.a sd (.m 21 (.s K3 Vc))) (.c 74)] (.E (.a K1 K0) (.s (.c 75) bA))) h2
  |cons t ts=>rw[e,Ux]at h1;have:ts=[]:=SO.mp ((A2 [.q pQ K1] (.q Vb K0)) h1);subst this;have:=ip G.gen.zeros (by rw[e];exact .head _);simp only[Vt,VG,Vv,VJ,this];exact(A1 [] (.E (.a K1 (.a (.s (.c 75) (.o fJ)) K0)) (.s (.c 75) bA)))) λs G=>by have:=G.vL;exact(A3 [.e (.a sd (.m 21 (.s K3 Vc))) (.c 74)] (.E K0 (.s (.c 75) bA))) this) λN hN BZ=>?_
 rw[MD]at BZ;have jZ:=jy (P:=P) (start P) h0 hn N;have KQ:∀l:List eC,(l.map λ_=>(1:Int)).sum=l.length:=λl=>by
  induction l with
  |nil=>rfl
  |cons a l ih=>simp only[Vt,Vv,ih,Ux];exact Int.add_comm _ _
 have NP:∀l:List eC,(l.map λ_=>(-1:Int)).sum= -(l.length:Int):=λl=>by
  induction l with
  |nil=>rfl
  |cons a l ih=>simp only[Vt,Vv,ih,Ux];exact(A1 [] (.Q (.a (.g K1) pP) (.g (.o fJ))))
 have Dg:∀l:List eC,(l.map λs=> -((outs P s).length:Int)).sum= -(l.map λs=>((outs P s).length:Int)).sum:=λl=>by
  induction l with
  |nil=>rfl
  |cons a l ih=>simp only[Vt,Vv,ih,Vt,Vv];exact V7 Int.neg_add
 refine bH (wholeOf P (eI P (start P) N)) ⟨⟨cp,G2 P,N,h0,λs G=>⟨G.cond g hk,hn s G⟩,hN,by exact(A1 [.E bA (.s (.c 75) (.o K0))] (.e Va (.c 100000))) BZ,rfl⟩,λo ho=>?_,λo ho=>?_,λo ho=>?_,λo ho=>?_⟩ ?_
 .obtain⟨s,hs,q,rfl⟩:=dX.mp ho;exact(jZ s hs).gen.book q (names0 g)
 .obtain⟨s,hs,q,rfl⟩:=dX.mp ho;have:=(jZ s hs).txt;refine(?_:(s.told.map _).length<=40);rw[US];exact(A3 [.e (.a sd (.m 9 (.s K3 Vc))) (.c 32)] (.e Va (.c 40))) this
 .obtain⟨s,hs,q,rfl⟩:=dX.mp ho;refine aO ((jZ s hs).gen.lx q) λm hm=>?_;exact wQ hm
 .obtain⟨s,hs,q,rfl⟩:=dX.mp ho;exact(jZ s hs).gen.lx q
 have u1:=nu (Good:=G2 P) (start P) h0 hn (λ_=>1) (λs=>((outs P s).length:Int)) (λs G=>by rw[KQ];have:=G.one g hk;exact(A2 [.q sd K1] (.E (.a bA ew) K1)) this) N (VH (V7 hN));have u2:=nu (Good:=G2 P) (start P) h0 hn (λ_=> -1) (λs=> -((outs P s).length:Int)) (λs G=>by rw[NP];have:=G.one g hk;exact(A2 [.q sd K1] (.E (.a pP (.g ew)) (.g K1))) this) N (VH (V7 hN));rw[SU (VH hN),<-md,SV (VH hN)]at u1;rw[SU (VH hN),Dg,<-md,SV (VH hN)]at u2;simp only[VG,VJ]at u1 u2;exact(A1 [.E (.a bA K0) K1,.E (.a pP K0) (.g K1)] (.q Va K1)) u1 u2
end
def tH(x:List Nat)(k c:Nat):jV (T x) (some (k:Int)) (some ((k:Int)+1))=one c↔x[k]? =some c:=by
 have e:jV (T x) (some (k:Int)) (some ((k:Int)+1))=T (bY x k (k+1)):=by
  have e1:((k:Int)+1)=((k+1:Nat):Int):=by rfl
  rw[e1];delta jV cut bY;simp only[Option.elim,jx];by_cases h:k<x.length
  .rw[U3 (by assumption),U3 (VE ‹_›)]
  (refine Eq.substr (UM (UN h)) ?_;refine Eq.substr (UM (UJ ‹_›)) ?_;refine Eq.substr (SV (VP _)) ?_;refine Eq.substr (SV (UJ ‹_›)) ?_);simp
 rw[e];have e2:one c=T [c]:=rfl;rw[e2];constructor
 .intro h;have h:=qc h;unfold bY at h;rw[Nat.add_sub_cancel_left]at h;have:(take 1 (drop k x))[0]? =some c:=by rw[h];rfl
  rw[getElem?_take,if_pos (VC _),getElem?_drop]at this;exact this
 intro h;delta bY;rw[Nat.add_sub_cancel_left];refine aO (SF.mp h) λhk hc=>?_;rw[SG hk,hc];rfl
def vA(x:List Nat):∀(y:List Nat) (k:Nat),k<=x.length->(y.foldl (fF (T x)) (k:Int)=x.length↔Sublist (x.drop k) y):=by
 intro l';induction l' with
 |nil=>exact @λk hk=>by rw[sublist_nil,drop_eq_nil_iff];refine(?_:(k:Int)=x.length↔_);exact(A2 [.e Va Vb] (.b (.Q bA ew) (.e Vb Va))) hk
 |cons c y aU=>
  exact @λk hk=>by
   simp only[UY];delta fF;by_cases h:x[k]? =some c
   .rw[if_pos ((tH x k c).mpr h)];refine aO (SF.mp h) λe8 hc=>?_;have e:(k:Int)+1=((k+1:Nat):Int):=by rfl
    rw[e];have ih:=aU (k+1) (by assumption);unfold fF at ih;rw[ih,SG e8,hc,cons_sublist_cons]
   rw[if_neg λq=>h ((tH x k c).mp q),VM];have ih:=aU k hk;unfold fF at ih;rw[ih];by_cases e8:k<x.length
   .rw[SG e8];have eH:x[k]≠c:=λq=>h (by rw[SK e8,q]);constructor
    .exact λq=>q.cons c
    intro q
    cases q with
    |cons _ q=>exact q
    |cons_cons _ q=>exact absurd rfl eH
   rw[SV (UJ ‹_›)];exact⟨λ_=>UP _,λ_=>UP _⟩
def oB(x y:List Nat):et (T x) (T y)=if Sublist x y then 0 else 1:=by
 delta et;have h:=vA x y 0 (VO _);rw[Vp]at h;have e:((T x).length:Int)=x.length:=by rw[cJ]
 rw[e];by_cases q:Sublist x y
 .rw[if_pos q];exact if_pos (h.mpr q)
 rw[if_neg q];exact if_neg λz=>q (h.mp z)
def lL(kept:List (List Nat))(w:List Nat):cW kept w=decide (∃k∈kept,Sublist k w):=by
 delta cW;refine UD.mpr ?_;rw[VB];constructor
 .intro bx;refine ao bx λk hk e=>?_;clear bx;rw[oB]at e;refine bH k hk ?_;by_cases q:Sublist k w
  .exact q
  rw[if_neg q]at e;cases e
 intro bx;refine ao bx λk hk q=>?_;clear bx;exact bH k hk (by rw[oB,if_pos q])
def xB(a b:Nat):gO (one a) (one b)=0↔a=b:=by
 delta gO;constructor
 .intro h;by_cases q:one a=one b
  .exact one_inj q
  rw[if_neg q]at h;split at h<;>cases h
 rintro rfl;rw[if_pos rfl]
def k7(a b:Str):0<=gO a b/\gO a b<=2:=by
 delta gO;split
 ·decide
 split<;>decide
noncomputable def lv(s t:List Nat)(i:Nat):Nat->Int:=
 Nat.rec (motive:=λ_=>Nat->Int) (λj=>2*(j:Int)) (λi f j=>Nat.rec (motive:=λ_=>Int) (2*((i:Int)+1)) (λj a=>min (min (if i=0 then 2*(j:Int)else f (j+1)) a+2) (f j+gO (one (t.getD j 0)) (one (s.getD i 0)))) j) i
noncomputable def rs(s t:List Nat)(i j:Nat):Int:=if i=0 then 2*(j:Int)else lv s t i (j+1)
def CK{x a b c:Int}(h1:x<=a+2)(h2:x<=b+2)(h3:x<=c):x<=min (min a b+2) c:=
 Int.le_min.mpr ⟨by simp only[Int.min_def];split<;>assumption,h3⟩
def J7{x a b c d:Int}(h1:x<a+2)(h2:x<=b+2)(h3:x<=c)(h4:0<=d):min (min a b+2) (c+d)=x↔b+2=x\/(d=0/\c=x):=by simp only[Int.min_def,Int.min_def];split<;>split<;>lia
section
variable{s t:List Nat}
def jK(i j:Nat):lv s t (i+1) (j+1)=min (min (rs s t i j) (lv s t (i+1) j)+2) (lv s t i j+gO (one (t.getD j 0)) (one (s.getD i 0))):=rfl
def Ee{i j:Nat}(h:2*((i:Int) - (j+1))<=lv s t i (j+1)/\2*(((j:Int)+1) - i)<=lv s t i (j+1)):2*((i:Int) - j)<=rs s t i j+2/\2*((j:Int) - i)<=rs s t i j:=by
 delta rs;split
 ·lia
 refine cu h λh1 h2=>?_;clear h;exact⟨by exact(ar 2 3 [_,_] [_] [.E (.m 2 (.s bA (.a ew K1))) Qa] (.E uw (.a Qa K2))) h1,by exact(ar 2 3 [_,_] [_] [.E (.m 2 (.s (.a bA K1) ew)) Qa] (.E uw Qa)) h2⟩
def sM:∀i j:Nat,2*((i:Int) - j)<=lv s t i j/\2*((j:Int) - i)<=lv s t i j:=by
 intro i;induction i with
 |zero=>intro j;show _<=2*(j:Int)/\_<=2*(j:Int);exact(A1 [] (.a (.E (.m 2 (.s (.o K0) bA)) (.m 2 bA)) (.E (.m 2 (.s bA (.o K0))) (.m 2 bA))))
 |succ i ih=>
  intro j;induction j with
  |zero=>show _<=2*((i:Int)+1)/\_<=2*((i:Int)+1);exact(A1 [] (.a (.E (.m 2 (.s (.o fJ) (.o K0))) (.m 2 (.a bA K1))) (.E (.m 2 (.s (.o K0) (.o fJ))) (.m 2 (.a bA K1)))))
  |succ j DX=>refine cu (Ee (ih (j+1))) λr1 r2=>?_;refine cu (ih j) λl1 l2=>?_;refine cu DX λk1 k2=>?_;clear DX;have h4:=(k7 (one (t.getD j 0)) (one (s.getD i 0))).1;simp only[jK];exact⟨CK ((ar 2 3 [_,_] [_] [.E uw (.a Qa K2)] (.E Fz (.a Qa K2))) r1) ((ar 2 3 [_,_] [_] [.E (.m 2 (.s (.o fJ) ew)) Qa] (.E Fz (.a Qa K2))) k1) ((ar 2 4 [_,_] [_,_] [.E uw Qa,.E K0 Qb] (.E Fz (.a Qa Qb))) l1 h4),CK ((ar 2 3 [_,_] [_] [.E uw Qa] (.E Fz (.a Qa K2))) r2) ((ar 2 3 [_,_] [_] [.E (.m 2 (.s bA (.o f9))) Qa] (.E Fz (.a Qa K2))) k2) ((ar 2 4 [_,_] [_,_] [.E uw Qa,.E K0 Qb] (.E Fz (.a Qa Qb))) l2 h4)⟩
def BG:Sublist (a::l) (b::m)↔Sublist (a::l) m\/(a=b/\Sublist l m):=by
 constructor
 .intro h
  cases h with
  |cons _ h=>exact .inl h
  |cons_cons _ h=>exact .inr ⟨rfl,h⟩
 rintro(h|⟨rfl,h⟩)
 .exact h.cons b
 exact h.cons_cons a
def AK:Sublist (l++[a]) (m++[b])↔Sublist (l++[a]) m\/(a=b/\Sublist l m):=by
 rw[<-reverse_sublist,reverse_append,reverse_append];refine(?_:Sublist (a::l.reverse) (b::m.reverse)↔_);rw[BG];have e:a::l.reverse=(l++[a]).reverse:=by simp
 rw[e,reverse_sublist,reverse_sublist]
def take_snoc{l:List Nat}(h:i<l.length):l.take (i+1)=l.take i++[l.getD i 0]:=by (refine V3 Ug ?_;refine Eq.substr (SK h) ?_;refine Eq.substr Su ?_;refine Eq.substr (SK h) ?_);rfl
def GQ:∀i j:Nat,i<=j->i<=s.length->j<=t.length->(lv s t i j=2*((j:Int) - i)↔Sublist (s.take i) (t.take j)):=by
 intro i;induction i with
 |zero=>intro j _ _ _;simp only[take_zero];exact⟨λ_=>UP _,λ_=>(V4 (2*·) (Int.sub_zero (j:Int)):2*((j:Int) - 0)=2*(j:Int)).symm⟩
 |succ i ih=>
  intro j;induction j with
  |zero=>intro h _ _;exact(U5 _ h).elim
  |succ j DX=>
   intro h h1 h2;have Ia:=ih j (le_of_succ_le_succ h) (VE h1) (VE h2);have g2:=(sM (s:=s) (t:=t) (i+1) j).2;have e:2*(((j+1:Nat):Int) - ((i+1:Nat):Int))=2*((j:Int) - i):=by exact(A2 [] (.Q Fz uw))
   have e2:lv s t (i+1) j+2=2*((j:Int) - i)↔lv s t (i+1) j=2*((j:Int) - ((i+1:Nat):Int)):=by exact(ar 2 3 [_,_] [_] [] (.b (.Q (.a Qa K2) uw) (.Q Qa (.m 2 (.s bA (.o f9))))))
   have hr:2*((j:Int) - i)<rs s t i j+2:=Int.lt_of_le_of_lt (Ee (sM (s:=s) (t:=t) i (j+1))).2 (Int.lt_add_of_pos_right _ (by decide));(refine Eq.substr (take_snoc (l:=s) h1) ?_;refine Eq.substr (take_snoc (l:=t) h2) ?_;rw[AK];refine Eq.substr (V7 (take_snoc (l:=s) h1)) ?_;simp only[jK];refine Eq.substr e ?_;rw[J7 hr (by exact(ar 2 3 [_,_] [_] [.E (.m 2 (.s bA (.o f9))) Qa] (.E uw (.a Qa K2))) g2) (sM i j).2 (k7 _ _).1,e2,Ia,xB,eq_comm (a:=t.getD j 0)]);by_cases qW:i+1<=j
   .rw[DX qW h1 (VE h2)]
   have hn:¬Sublist (s.take (i+1)) (t.take j):=λq=>qW (by have:=q.length_le;rw[UC,UC,U3 h1]at this;exact Vz this (Nat.min_le_left _ _));have hm:¬lv s t (i+1) j=2*((j:Int) - ((i+1:Nat):Int)):=λq=>by have:=(sM (s:=s) (t:=t) (i+1) j).1;exact(ar 2 3 [_,_] [_] [.n (.e fJ Vb),.Q Qa (.m 2 (.s ew (.o fJ))),.E (.m 2 (.s (.o fJ) ew)) Qa] .f) qW q this
   exact or_congr (iff_of_false hm hn) Iff.rfl
def GR(j:Nat):lv s t 1 (j+1)<=2*((j:Int)+1):=by simp only[jK];exact Int.le_trans (Int.min_le_right _ _) (by have:=(k7 (one (t.getD j 0)) (one (s.getD 0 0))).2;show 2*(j:Int)+_<=_;exact(ar 1 2 [_] [_] [.E Qa K2] (.E (.a (.m 2 bA) Qa) (.m 2 (.a bA K1)))) this)
def J9{n j:Nat}(hj:1<=j)(h:∀k,k<n->c<lv s t (k+1) j)(k:Nat):k<n->c<lv s t (k+1) (j+1):=by
 induction k with
 |zero=>
  intro hk;have h0:c<lv s t 1 j:=h 0 hk;have h4:=(k7 (one (t.getD j 0)) (one (s.getD 0 0))).1;have h1:=GR (s:=s) (t:=t) (j - 1);rw[show j - 1+1=j from Nat.sub_add_cancel hj]at h1;simp only[jK];refine CK (x:=c+1) ?_ ?_ ?_
  .refine(?_:_<=2*(j:Int)+2);exact(ar 1 4 [_] [_,_] [.L Qa Qb,.E Qb (.m 2 (.a (.o jd) K1))] (.E (.a Qa K1) (.a (.m 2 bA) K2))) h0 h1
  .refine(?_:_<=lv s t 1 j+2);exact(I2 [.L Qa Qb] (.E (.a Qa K1) (.a Qb K2))) h0
  refine(?_:_<=2*(j:Int)+_);exact(ar 1 6 [_] [_,_,_] [.e K1 Va,.L Qa Qb,.E K0 Qc,.E Qb (.m 2 (.a (.o jd) K1))] (.E (.a Qa K1) (.a (.m 2 bA) Qc))) hj h0 h4 h1
 |succ k ih=>intro hk;have ih:=ih (VE hk);have h0:=h (k+1) hk;have h1:=h k (VE hk);have h4:=(k7 (one (t.getD j 0)) (one (s.getD (k+1) 0))).1;(simp only[jK];refine Eq.substr (show rs s t (k+1) j=lv s t (k+1) (j+1)from if_neg (succ_ne_zero _)) ?_);exact CK (x:=c+1) ((I2 [.L Qa Qb] (.E (.a Qa K1) (.a Qb K2))) ih) ((I2 [.L Qa Qb] (.E (.a Qa K1) (.a Qb K2))) h0) ((I3 [.L Qa Qb,.E K0 Qc] (.E (.a Qa K1) (.a Qb Qc))) h1 h4)
def GP(hj:1<=j)(h:∀k,k<n->c<lv s t (k+1) j):∀d k,k<n->c<lv s t (k+1) (j+d):=by
 intro l';induction l' with
 |zero=>exact @λk hk=>h k hk
 |succ d aU=>exact @λk hk=>J9 (le_add_right_of_le hj) (aU) k hk
def Ki(hl:row.length=s.length)(hr:∀k,k<s.length->row.getD k 0=lv s t (k+1) j):∀m,m<=s.length->
 let st:=gY s (t.getD j 0) ⟨(j:Int)*2,(j:Int)*2,9223372036854775807,row⟩ m
 st.row.length=s.length/\st.dist=lv s t m j/\st.res=rs s t m j/\(∀k,k<s.length->st.row.getD k 0=if k<m then lv s t (k+1) (j+1)else lv s t (k+1) j)/\∀k,k<m->st.mn<=lv s t (k+1) (j+1):=by
 intro l';induction l' with
 |zero=>
  exact @λ_=>by
   refine⟨hl,?_,?_,λk hk=>by rw[if_neg (U5 k)];exact hr k hk,λk hk=>by exact(U5 _ ‹_›).elim⟩
   .refine(?_:(j:Int)*2=2*(j:Int));exact Int.mul_comm _ _
   refine(?_:(j:Int)*2=rs s t 0 j);rw[show rs s t 0 j=2*(j:Int)from if_pos rfl];exact Int.mul_comm _ _
 |succ m aU=>
  exact @λhm=>by
   refine dk (aU (VE ‹_›)) λh1 h2 h3 h4 h5=>?_;dsimp only;rw[qF];generalize gY s (t.getD j 0) ⟨(j:Int)*2,(j:Int)*2,9223372036854775807,row⟩ m=st at h1 h2 h3 h4 h5⊢;have Ms:=h4 m (by assumption);rw[if_neg (Vw m)]at Ms;have hv:min (min st.res (st.row.getD m 0)+2) (st.dist+gO (one (t.getD j 0)) (one (s.getD m 0)))=lv s t (m+1) (j+1):=by simp only[h3,Ms,h2,jK]
   delta l4;refine Eq.substr hv ?_;dsimp only;refine⟨by rw[length_set];exact h1,Ms,?_,λk hk=>?_,λk hk=>?_⟩
   .rw[show rs s t (m+1) j=lv s t (m+1) (j+1)from if_neg (add_one_ne_zero m)]
   .rw[Su,Uk];by_cases e:m=k
    .subst e;(refine Eq.substr (if_pos rfl) ?_;refine Eq.substr (if_pos (T1 hm (V7 h1))) ?_;refine V3 ?_ (V7 (if_pos (UG _))));rfl
    (refine Eq.substr (if_neg e) ?_;refine V3 (V7 Su) ?_;refine V3 (h4 k hk) ?_);by_cases q:k<m
    .rw[if_pos q,if_pos (Uj ‹_›)]
    rw[if_neg q,if_neg (by exact(A2 [.n se,.n (.l Vb Va)] (.n (.l Vb fJ))) e q)]
   by_cases e:k=m
   ·(replace e:=V7 e;subst e);split<;>lia
   have:=h5 k ((A2 [.l Va f9,.n se] nE) hk e);split<;>lia
def Dk(hn:1<=s.length):∀(bs t1:List Nat) (res:Int) (row:List Int),t=t1++bs->row.length=s.length->(∀k,k<s.length->row.getD k 0=lv s t (k+1) t1.length)->(1<=t1.length->res=lv s t s.length t1.length)->1<=t.length->
 g7 s bK bs t1.length res row=lv s t s.length t.length\/(g7 s bK bs t1.length res row=bK+1/\bK<lv s t s.length t.length):=by
 intro l';induction l' with
 |nil=>exact @λt1 res row ht hl hr Jc h1=>by rw[UX]at ht;subst ht;exact .inl (Jc h1)
 |cons bc bs aU=>
  exact @λt1 res row ht hl hr Jc h1=>by
   simp only[oS];have QX:t.getD t1.length 0=bc:=by (refine Eq.substr ht ?_;refine V3 Su ?_;refine Eq.substr (SE (VP _)) ?_);simp
   have BX:=Ki (t:=t) hl hr s.length (VP _);rw[QX]at BX;dsimp only at BX;refine dk BX λg1 g2 g3 g4 g5=>?_;clear BX;generalize gY s bc ⟨(t1.length:Int)*2,(t1.length:Int)*2,9223372036854775807,row⟩ s.length=st at g1 g2 g3 g4 g5⊢;by_cases hm:bK<st.mn
   .rw[if_pos hm];refine .inr ⟨rfl,?_⟩;have F5:∀k,k<s.length->bK<lv s t (k+1) (t1.length+1):=λk hk=>Int.lt_of_lt_of_le hm (g5 k hk);have hlen:t.length=t1.length+1+bs.length:=by simp only[ht,TU,Ux];exact V7 (succ_add_eq_add_succ t1.length bs.length)
    have:=GP (VC _) F5 bs.length (s.length - 1) (sub_lt ‹_› (VC _));rw[show s.length - 1+1=s.length by exact Nat.sub_add_cancel ‹_›,<-hlen]at this;exact this
   rw[if_neg hm];have e:t1.length+1=(t1++[bc]).length:=by simp
   rw[e];refine aU (t1++[bc]) st.res st.row (by rw[ht];simp) g1 (λk hk=>?_) (λ_=>?_) h1
   ·(refine V3 (g4 k hk) ?_;refine V3 (if_pos hk) ?_;exact V4 _ e)
   rw[g3,<-e];exact if_neg (Nat.ne_of_gt ‹_›)
end
noncomputable def Sb(a b:List Nat):Prop:=if b.length<a.length then Sublist b a else Sublist a b
noncomputable def gap(a b:List Nat):Int:=2*(((a.length:Int) - b.length).natAbs:Int)
def DK(a b:List Nat)(ha:a.length<=40)(hb:b.length<=40):(Sb a b->fv a b (gap a b)=gap a b)/\(¬Sb a b->gap a b<fv a b (gap a b)):=by
 delta fv;by_cases h:a=[]\/b=[]
 .rw[if_pos h];have hs:Sb a b:=by
   delta Sb;rcases h with rfl|rfl
   .rw[if_neg (by simp)];exact UP _
   split
   ·exact UP _
   rename_i q;have:a=[]:=SO.mp (by simp at q;rw[q];rfl);rw[this];exact UP _
  refine⟨λ_=>?_,λq=>absurd hs q⟩;delta gap;rcases h with rfl|rfl
  .simp only[U7];exact(A2 [.i (.E (.s (.o K0) bA) K0) (.Q ew (.g (.s (.o K0) bA)))] (.Q (.m 2 (.a (.o K0) bA)) (.m 2 ew))) Sv
  simp only[U7];rfl
 refine cu (not_or.mp h) λQ6 QY=>?_;rw[if_neg h,if_neg (by exact(A2 [.e Va (.c 40),.e Vb (.c 40)] (.n (.o (.l (.c 40) Va) (.l (.c 40) Vb)))) ha hb)];dsimp only;generalize hs:(if b.length<a.length then b else a)=s;generalize ht:(if b.length<a.length then a else b)=t;have e9:s.length<=t.length:=by rw[<-hs,<-ht];split<;>lia
 have hg:gap a b=((t.length:Int) - s.length)*2:=by delta gap;rw[<-hs,<-ht];split<;>omega
 have Ra:Sb a b↔Sublist s t:=by delta Sb;rw[<-hs,<-ht];split<;>exact Iff.rfl
 have Fh:1<=s.length:=by have h1:=TN.mpr Q6;have h2:=TN.mpr QY;rw[<-hs];split<;>assumption
 rw[if_neg (by exact(ar 2 3 [_,_] [_] [.Q Qa (.r pR 2)] (.n (.L Qa (.r pR 2)))) hg),Ra];have xm:∀k,k<s.length->(dP s.length).getD k 0=lv s t (k+1) ([]:List Nat).length:=λk hk=>by delta dP;(refine V3 Su ?_;refine Eq.substr Uc ?_;refine Eq.substr (TL hk) ?_);refine(?_:2+(k:Int)*2=2*((k:Int)+1));exact(A1 [] (.Q (.a K2 (.r bA 2)) (.m 2 (.a bA K1))))
 have key:=Dk (s:=s) (t:=t) (bK:=gap a b) Fh t [] 0 (dP s.length) rfl (by simp[dP]) xm (λq=>by exact if_pos ‹_›) (Vz ‹_› ‹_›);have hv:=GQ (s:=s) (t:=t) s.length t.length e9 (VP _) (VP _);rw[UA,UA]at hv;have w9:=sM (s:=s) (t:=t) s.length t.length;refine⟨λq=>?_,λq=>?_⟩
 .have hv:=hv.mpr q;rcases key with e|⟨e,e2⟩
  .exact e.trans ((ar 2 4 [_,_] [_,_] [.Q Qa (.r pR 2),.Q Qb uw] (.Q Qb Qa)) hg hv)
  exact(ar 2 6 [_,_] [_,_,_] [.Q Qa (.r pR 2),.Q Qb uw,.L Qa Qb] (.Q Qc Qa)) hg hv e2
 have hv:lv s t s.length t.length≠_:=λz=>q (hv.mp z);rcases key with e|⟨e,e2⟩
 .have e':g7 s (gap a b) t 0 0 (dP s.length)=_:=e;rw[e'];exact(ar 2 4 [_,_] [_,_] [.Q Qa (.r pR 2),.a (.E (.m 2 (.s ew bA)) Qb) (.E uw Qb),.n (.Q Qb uw)] q9) hg w9 hv
 have e':g7 s (gap a b) t 0 0 (dP s.length)=_:=e;rw[e'];exact VT _
theorem oK:∀a b:List Nat,a.take (fH a b)=b.take (fH a b)
 |[],b=>by induction b using List.casesOn<;>rfl
 |_::_,[]=>by rfl
 |x::xs,y::ys=>by
  rw[zN];by_cases e:x=y
  ·(refine Eq.substr (if_pos e) ?_;refine V3 take_succ_cons ?_;simp only[take_succ_cons];refine Eq.substr (oK xs ys) ?_;refine Eq.substr e ?_;rfl)
  rw[if_neg e];rfl
def GA(p a b q:List Nat):Sb (p++(a++q)) (p++(b++q))↔Sb a b:=by
 delta Sb;have e:(p++(b++q)).length<(p++(a++q)).length↔b.length<a.length:=by simp only[TU];exact(A4 [] (.b (.l (.a Va nF) (.a Va (.a Vd Vc))) (.l Vb Vd)))
 by_cases h:b.length<a.length
 .rw[if_pos h,if_pos (e.mpr h),append_sublist_append_left,append_sublist_append_right]
 rw[if_neg h,if_neg λz=>h (e.mp z),append_sublist_append_left,append_sublist_append_right]
def DA(p a b q:List Nat):gap (p++(a++q)) (p++(b++q))=gap a b:=by delta gap;simp only[TU];lia
def Af(a b:List Nat)(ha:a.length<=40)(hb:b.length<=40):(Sb a b->g9 a b (gap a b)=gap a b)/\(¬Sb a b->gap a b<g9 a b (gap a b)):=by
 delta g9;by_cases h:a=b
 .subst h;rw[if_pos rfl];refine⟨λ_=>by delta gap;exact(A2 [.i (.E (.s bA bA) K0) (.Q ew (.g (.s bA bA)))] (.Q K0 (.m 2 ew))) Sv,λq=>absurd ?_ q⟩;delta Sb;rw[if_neg (Vw a.length)];exact Sublist.refl _
 rw[if_neg h];dsimp only;have e1:a=a.take (fH a b)++a.drop (fH a b):=(Ti _ _).symm;have e2:b=a.take (fH a b)++b.drop (fH a b):=by rw[oK];exact(Ti _ _).symm
 generalize hp:a.take (fH a b)=p at e1 e2;generalize Sa:a.drop (fH a b)=a' at e1⊢;generalize HO:b.drop (fH a b)=b' at e2⊢;have hq:=oK a'.reverse b'.reverse;generalize fH a'.reverse b'.reverse=q at hq⊢;rw[take_reverse,take_reverse]at hq;have hq:=reverse_inj.mp hq;have f1:a'=a'.take (a'.length - q)++a'.drop (a'.length - q):=(Ti _ _).symm;have f2:b'=b'.take (b'.length - q)++a'.drop (a'.length - q):=by rw[hq];exact(Ti _ _).symm
 generalize a'.drop (a'.length - q)=z at f1 f2;generalize a'.take (a'.length - q)=HU at f1⊢;generalize b'.take (b'.length - q)=HT at f2⊢;rw[f1]at e1;rw[f2]at e2;have la:HU.length<=40:=by rw[e1]at ha;simp only[TU]at ha;exact(A3 [.e (.a Va nF) (.c 40)] (.e Vb (.c 40))) ha
 have lb:HT.length<=40:=by rw[e2]at hb;simp only[TU]at hb;exact(A3 [.e (.a Va nF) (.c 40)] (.e Vb (.c 40))) hb
 have k:=DK HU HT la lb;have g1:gap a b=gap HU HT:=by
  conv=>lhs;rw[e1,e2]
  exact DA p HU HT z
 have g2:Sb a b↔Sb HU HT:=by
  conv=>lhs;rw[e1,e2]
  exact GA p HU HT z
 rw[g1,g2];exact k
def JY(h:a.length<=b.length):(Sb a b↔Sublist a b)/\(Sb b a↔Sublist a b):=by
 delta Sb;rw[if_neg (Nat.not_lt_of_le ‹_›)];refine⟨Iff.rfl,?_⟩;by_cases q:a.length<b.length
 .rw[if_pos q]
 rw[if_neg q];constructor
 .intro z;rw[z.eq_of_length ((A2 [.e Va Vb,.n nE] (.q Vb Va)) h q)];exact Sublist.refl _
 intro z;rw[z.eq_of_length ((A2 [.e Va Vb,.n nE] se) h q)];exact Sublist.refl _
def wx(x y:List Nat)(h:x.length<=y.length)(hy:y.length<=40):dF x y=if Sublist x y then 0 else 1:=by
 delta dF;dsimp only;have g1:2*((y.length:Int) - x.length)=gap x y:=by delta gap;exact(A3 [.e Va Vb,.i (.E pR K0) (.Q (.o Vc) (.g pR))] (.Q (.m 2 (.s ew bA)) (.m 2 (.o Vc)))) h Sv
 have g2:2*((y.length:Int) - x.length)=gap y x:=by delta gap;exact(A3 [.e Va Vb,.i (.E K0 (.s ew bA)) (.Q (.o Vc) (.s ew bA))] (.Q (.m 2 (.s ew bA)) (.m 2 (.o Vc)))) h Tv
 refine cu (JY h) λs1 s2=>?_;have k1:=Af x y (Vz ‹_› ‹_›) hy;have k2:=Af y x hy (Vz ‹_› ‹_›);rw[s1,<-g1]at k1;rw[s2,<-g2]at k2;by_cases q:Sublist x y
 ·(refine V3 ?_ (V7 (if_pos q));refine Eq.substr (k1.1 q) ?_;refine Eq.substr (k2.1 q) ?_);split<;>exact(A2 [] (.Q (.i K1 (.s uw uw)) K0))
 have a:=k1.2 q;have b:=k2.2 q;rw[if_neg q];split<;>lia
theorem qj{α:Type}(r:α->Int):∀{xs ys:List α},xs.Pairwise (λa b=>r a<r b)->ys.Pairwise (λa b=>r a<r b)->(∀x,x∈xs↔x∈ys)->xs=ys
 |[],[],_,_,_=>rfl
 |[],y::ys,_,_,h=>by have:=(h y).mpr (.head _);exact pL this
 |x::xs,[],_,_,h=>by have:=(h x).mp (.head _);exact pL this
 |x::xs,y::ys,h1,h2,h=>by
  refine cu (T7.mp h1) λa1 a2=>?_;refine cu (T7.mp h2) λb1 b2=>?_;have e:x=y:=by
   rcases Vr.mp ((h x).mp (.head _))with q|q
   .exact q
   rcases Vr.mp ((h y).mpr (.head _))with p|p
   .exact p.symm
   have:=a1 y p;have:=b1 x q;lia
  subst e;rw[qj r a2 b2 λz=>?_];constructor
  .intro hz;rcases Vr.mp ((h z).mp (.tail _ hz))with q|q
   .have:=a1 z hz;rw[q]at this;lia
   exact q
  intro hz;rcases Vr.mp ((h z).mpr (.tail _ hz))with q|q
  .have:=b1 z hz;rw[q]at this;lia
  exact q
def vD{α:Type}(r:α->Int)(c:Int):∀{l:List α},l.Pairwise (λa b=>r a<r b)->l.take (l.filter λx=>decide (r x<c)).length=l.filter (λx=>decide (r x<c))/\l.drop (l.filter λx=>decide (r x<c)).length=l.filter (λx=>decide (¬r x<c)):=by
 intro l';induction l' with
 |nil=>exact @λ_=>⟨rfl,rfl⟩
 |cons x l aU=>
  exact @λh=>by
   refine cu (T7.mp h) λa1 a2=>?_;by_cases q:r x<c
   .refine cu (aU a2) λi1 i2=>?_;(refine Eq.substr Uy ?_;refine Eq.substr (if_pos (Vk q)) ?_;simp only[Ux];simp only[take_succ_cons];refine Eq.substr drop_succ_cons ?_;refine Eq.substr i1 ?_;refine Eq.substr i2 ?_;refine Eq.substr Uy ?_;rw[if_neg (by simpa using q)]);exact⟨rfl,rfl⟩
   have e:(x::l).filter (λx=>decide (r x<c))=[]:=S9.mpr λy hy=>by
    rcases Vr.mp hy with rfl|hy
    .simpa using q
    have:=a1 y hy;simp;exact(I3 [.n q9,.L Qa Qc] (.E Qb Qc)) q this
   have e2:(x::l).filter (λx=>decide (¬r x<c))=x::l:=filter_eq_self.mpr λy hy=>by
    rcases Vr.mp hy with rfl|hy
    .exact Vk ‹_›
    have:=a1 y hy;simp;exact(I3 [.n q9,.L Qa Qc] (.E Qb Qc)) q this
   rw[e,e2];exact⟨rfl,rfl⟩
section
variable{way:Int}{sg:List Nat}{texts:List (List Nat)}
noncomputable def d9(way:Int)(r:Row):Int:=r.n*dD+way*r.v
def qb(ok:jr way sg texts)(ht:t∈texts): -dD<2*(way*(rowOf sg t).v)/\2*(way*(rowOf sg t).v)<dD:=by
 refine cu (ok.val t ht) λh1 h2=>?_;have h3:=ok.FA;have h4:way.natAbs*(valOf sg t).natAbs<=10*2^70:=Nat.mul_le_mul h3 (by exact(ar 1 2 [_] [_] [.E K0 Qa,.L Qa IF,.i vP (.Q bA Qa)] (.e Va IF)) h1 h2 Tv);have h5:(way*valOf sg t).natAbs<=10*2^70:=by rw[natAbs_mul];exact h4
 refine(?_: -dD<2*(way*valOf sg t)/\2*(way*valOf sg t)<dD);unfold dD;exact(ar 1 2 [_] [_] [.e Va (.m 10 IF),.i vP (.Q bA Qa),.i (.E Qa K0) (.Q bA (.g Qa))] (.a (.L (.g D5) (.m 2 Qa)) (.L (.m 2 Qa) D5))) h5 Tv Sv
def rO(w0:way≠0)(ha: -dD<2*(way*a.v)/\2*(way*a.v)<dD)(hb: -dD<2*(way*b.v)/\2*(way*b.v)<dD):
 (aR way a b<0↔d9 way a<d9 way b)/\(aR way a b=0↔d9 way a=d9 way b):=by
 have mono:∀i j:Int,i<j->(0<way->way*i<way*j)/\(way<0->way*j<way*i):=λi j h=>⟨λw=>Int.mul_lt_mul_of_pos_left h w,λw=>Int.mul_lt_mul_of_neg_left h w⟩;unfold aR d9;generalize hx:way*a.v=p at ha⊢;generalize hy:way*b.v=q at hb⊢;by_cases h1:a.n<b.n
 .rw[if_pos h1];have:a.n*dD+dD<=b.n*dD:=by
   have e:a.n*dD+dD=(a.n+1)*dD:=by simp only[Int.add_mul,Int.one_mul]
   rw[e];exact Sn (by assumption) (by decide)
  constructor<;>constructor<;>intro _<;>lia
 rw[if_neg h1];by_cases h2:b.n<a.n
 .rw[if_pos h2];have:b.n*dD+dD<=a.n*dD:=by
   have e:b.n*dD+dD=(b.n+1)*dD:=by simp only[Int.add_mul,Int.one_mul]
   rw[e];exact Sn (by assumption) (by decide)
  constructor<;>constructor<;>intro _<;>lia
 rw[if_neg h2];have e:a.n=b.n:=by exact(I2 [.n q9,.n (.L Qb Qa)] vQ) h1 h2
 rw[e];by_cases h3:a.v<b.v
 .rw[if_pos h3];refine cu (mono _ _ h3) λm1 m2=>?_;rw[hx,hy]at m1 m2;have w:0<way\/way<0:=by exact(I1 [.n (.Q Qa K0)] (.o (.L K0 Qa) (.L Qa K0))) w0
  rcases w with w|w
  .have:=m1 w;constructor<;>constructor<;>intro _<;>omega
  have:=m2 w;constructor<;>constructor<;>intro _<;>lia
 rw[if_neg h3];by_cases h4:b.v<a.v
 .rw[if_pos h4];refine cu (mono _ _ h4) λm1 m2=>?_;rw[hx,hy]at m1 m2;have w:0<way\/way<0:=by exact(I1 [.n (.Q Qa K0)] (.o (.L K0 Qa) (.L Qa K0))) w0
  rcases w with w|w
  .have:=m1 w;constructor<;>constructor<;>intro _<;>omega
  have:=m2 w;constructor<;>constructor<;>intro _<;>omega
 rw[if_neg h4];have:p=q:=by simp only[<-hx,<-hy];congr 1;exact(I2 [.n q9,.n (.L Qb Qa)] vQ) h3 h4
 constructor<;>constructor<;>intro _<;>lia
def AZ(way:Int)(line:List Row)(row:Row):g8 way line row=[]:=by
 unfold g8;rw[map_eq_nil_iff,S9];intro one _ h;refine(of_decide_eq_true h) ?_;unfold aR wantOf;by_cases h1:one.n<row.n
 .rw[if_pos h1,if_pos (by exact Int.ne_of_lt ‹_›)];rfl
 rw[if_neg h1];by_cases h2:row.n<one.n
 .rw[if_pos h2,if_pos (by exact Int.ne_of_gt ‹_›)];rfl
 rw[if_neg h2,if_neg (show¬one.n≠row.n by exact(I2 [.n q9,.n (.L Qb Qa)] (.n (.n vQ))) h1 h2)];by_cases h3:one.v<row.v
 .rw[if_pos h3,if_pos (show one.v≠row.v by exact Int.ne_of_lt ‹_›),natAbs_neg]
 rw[if_neg h3];by_cases h4:row.v<one.v
 .rw[if_pos h4,if_pos (show one.v≠row.v by exact Int.ne_of_gt ‹_›)]
 rw[if_neg h4,if_neg (show¬one.v≠row.v by exact(I2 [.n q9,.n (.L Qb Qa)] (.n (.n vQ))) h3 h4)];rfl
def wD(ok:jr way sg texts)(hs:s∈texts)(ht:t∈texts)(h:d9 way (rowOf sg s)=d9 way (rowOf sg t)):s=t:=by
 have h1:=(rO ok.w0 (qb ok hs) (qb ok ht)).2.mpr h;unfold aR at h1;have w0:=ok.w0;split at h1
 ·(exfalso;cases h1)
 split at h1
 ·(exfalso;cases h1)
 split at h1
 .lia
 split at h1
 .exact List.le_antisymm (λa=>w0 h1) λa=>w0 h1
 rename_i a b c d;refine ok.key s hs t ht ?_ ?_
 .have a:¬(s.length:Int)<t.length:=a;have b:¬(t.length:Int)<s.length:=b;exact(A2 [.n (.L bA ew),.n (.L ew bA)] se) a b
 have c:¬valOf sg s<valOf sg t:=c;have d:¬valOf sg t<valOf sg s:=d;exact(I2 [.n q9,.n (.L Qb Qa)] vQ) c d
def vo(ok:jr way sg texts){t:List Nat}(ht:t∈texts)(hl:∀r∈line,∃s∈texts,r=rowOf sg s)(hs:line.Pairwise λa b=>d9 way a<d9 way b):
 (eQ way line (rowOf sg t)).Pairwise (λa b=>d9 way a<d9 way b)/\∀r,r∈eQ way line (rowOf sg t)↔r∈line\/r=rowOf sg t:=by
 have hc:∀r∈line,(aR way r (rowOf sg t)<0↔d9 way r<d9 way (rowOf sg t))/\(aR way r (rowOf sg t)=0↔d9 way r=d9 way (rowOf sg t)):=λr hr=>by obtain⟨s,hs,rfl⟩:=hl r hr;exact rO ok.w0 (qb ok hs) (qb ok ht)
 unfold eQ;by_cases h0:(0:Int)∈line.map (aR way · (rowOf sg t))
 .rw[if_pos h0];refine ao (VB.mp h0) λr hr e=>?_;have e:=(hc r hr).2.mp e;(refine ao (hl r hr) λs cb aB=>?_;subst aB);have:=wD ok cb ht e
  (replace this:=V7 this;subst this)
  exact⟨hs,λq=>⟨.inl,λz=>z.elim id λz=>z▸hr⟩⟩
 rw[if_neg h0];have e:((line.map (aR way · (rowOf sg t))).filter λa=>decide (a<0)).length=(line.filter λr=>decide (d9 way r<d9 way (rowOf sg t))).length:=by rw[filter_map,US];congr 1;refine filter_congr λr hr=>?_;exact UD.mpr (hc r hr).1
 rw[e];refine cu (vD (d9 way) (d9 way (rowOf sg t)) hs) λc1 c2=>?_;(refine Eq.substr c1 ?_;refine Eq.substr c2 ?_);have eH:∀r∈line,d9 way r≠d9 way (rowOf sg t):=λr hr q=>h0 (VB.mpr ⟨r,hr,(hc r hr).2.mpr q⟩);constructor
 .rw[pairwise_append];refine⟨hs.filter _,?_,?_⟩
  .rw[T7];refine⟨λr hr=>?_,hs.filter _⟩;refine cu (UW.mp hr) λh1 h2=>?_;have h2:¬d9 way r<d9 way (rowOf sg t):=of_decide_eq_true h2;have:=eH r h1;exact(I2 [.n q9,.n vQ] (.L Qb Qa)) h2 this
  intro a ha b hb;refine cu (UW.mp ha) λh1 h2=>?_;have h2:d9 way a<d9 way (rowOf sg t):=of_decide_eq_true h2;rcases Vr.mp hb with rfl|hb
  .exact h2
  refine cu (UW.mp hb) λh3 h4=>?_;have h4:¬d9 way b<d9 way (rowOf sg t):=of_decide_eq_true h4;exact(I3 [.L Qa Qb,.n (.L Qc Qb)] (.L Qa Qc)) h2 h4
 intro r;rw[UU,Vr,UW,UW];constructor
 .rintro(h|h|h)
  .exact .inl h.1
  .exact .inr h
  exact .inl h.1
 rintro(h|h)
 .by_cases q:d9 way r<d9 way (rowOf sg t)
  .exact .inl ⟨h,Vk q⟩
  exact .inr (.inr ⟨h,Vk q⟩)
 exact .inr (.inl h)
def ub(ok:jr way sg texts):∀(ts:List (List Nat)) (line:List Row),(∀t∈ts,t∈texts)->(∀r∈line,∃s∈texts,r=rowOf sg s)->(line.Pairwise λa b=>d9 way a<d9 way b)->
 ∃L,(ts.map (rowOf sg)).foldl (cY way) (line,[])=(L,[])/\(L.Pairwise λa b=>d9 way a<d9 way b)/\∀r,r∈L↔r∈line\/r∈ts.map (rowOf sg):=by
 intro l';induction l' with
 |nil=>exact @λline _ _ hs=>⟨line,rfl,hs,λr=>by simp⟩
 |cons t ts aU=>
  exact @λline h1 h2 hs=>by
   refine cu (vo ok (h1 t (.head _)) h2 hs) λp1 p2=>?_;have e:cY way (line,[]) (rowOf sg t)=(eQ way line (rowOf sg t),[]):=by unfold cY;rw[AZ];rfl
   refine bq (aU (eQ way line (rowOf sg t)) (λs hs=>h1 s (.tail _ hs)) (λr hr=>by
    rcases(p2 r).mp hr with z|z
    .exact h2 r z
    .exact bH t (h1 t (.head _)) z) p1) λL q1 q2 q3=>?_
   refine dG L (by simp only[Vt,UY,e];exact q1) q2 (λr=>?_);(rw[q3,p2];refine Eq.substr Vt ?_;rw[Vr];exact or_assoc)
def Dl(ok:jr way sg texts):(∀t,t∈bP way sg texts↔t∈texts)/\(bP way sg texts).Pairwise λa b=>a.length<=b.length:=by
 refine bq (ub ok texts [] (λ_ h=>h) (λ_ h=>nomatch h) .nil) λL q1 q2 q3=>?_;have F5:bT way (texts.map (rowOf sg))=(L,[]):=q1;have mW:∀r∈L,∃t∈texts,r=rowOf sg t:=λr hr=>by
  rcases(q3 r).mp hr with h|h
  .exact pL h
  refine ao (VB.mp h) λt ht e=>?_;exact bH t ht e.symm
 have dR:dI way (texts.map (rowOf sg))=L.map (turned way):=by
  have hp:(dI way (texts.map (rowOf sg))).Perm ((cU (texts.map (rowOf sg))).map (turned way)):=TR _ _;refine qj iz ?_ ?_ λr=>?_
  .have h1:(dI way (texts.map (rowOf sg))).Pairwise λa b=>iz a<=iz b:=by have:=pairwise_mergeSort (le:=λ(a b:Row)=>decide (iz a<=iz b)) (λa b c h1 h2=>by simp at*;exact Int.le_trans ‹_› ‹_›) (λa b=>by simp;exact Int.le_total (iz a) (iz b)) ((cU (texts.map (rowOf sg))).map (turned way));exact this.imp λh=>by simpa using h
   have h2:((dI way (texts.map (rowOf sg))).map iz).Nodup:=by simp only[(hp.map iz).nodup_iff,VA];unfold Nodup;rw[Ul];refine(lN (texts.map (rowOf sg))).imp_of_mem λ{a b} ha hb nD e=>nD ?_;(refine ao (VB.mp ((fk _ a).mp ha)) λs hs aB=>?_;subst aB);(refine ao (VB.mp ((fk _ b).mp hb)) λt ht aB=>?_;subst aB);exact V4 (rowOf sg) (wD ok hs ht e)
   unfold Nodup at h2;rw[Ul]at h2;exact(h1.and h2).imp λm8=>cu m8 λa b=>by exact(I2 [.a (.E Qa Qb) (.n vQ)] q9) m8
  .rw[Ul];exact q2
  rw[hp.mem_iff,VB,VB];constructor
  .intro bx;refine ao bx λa ha e=>?_;exact bH a ((q3 a).mpr (.inr ((fk _ a).mp ha))) e
  intro bx;refine ao bx λa ha e=>?_;refine bH a ((fk _ a).mpr ?_) e;exact((q3 a).mp ha).resolve_left (λh=>nomatch h)
 have dH:bP way sg texts=L.map (·.t):=by unfold bP;(refine Eq.substr F5 ?_;refine Eq.substr dR ?_;refine Eq.substr VA ?_);exact if_pos ⟨rfl,rfl⟩
 rw[dH];constructor
 .intro t;rw[VB];constructor
  .intro bx;obtain⟨r,hr,rfl⟩:=bx;obtain⟨s,hs,rfl⟩:=mW r hr;exact hs
  intro ht;exact bH (rowOf sg t) ((q3 _).mpr (.inr (TP ht))) rfl
 rw[Ul];refine q2.imp_of_mem λ{a b} ha hb h=>?_;(refine ao (mW a ha) λs hs aB=>?_;subst aB);(refine ao (mW b hb) λt ht aB=>?_;subst aB);have h1:=(rO ok.w0 (qb ok hs) (qb ok ht)).1.mpr h;refine(?_:s.length<=t.length);unfold aR at h1;split at h1
 .rename_i q;have q:(s.length:Int)<t.length:=q;exact(A2 [.L bA ew] (.e Va Vb)) q
 split at h1
 .exact(A2 [.L K1 K0] (.e Va Vb)) h1
 rename_i q;have q:¬(t.length:Int)<s.length:=q;exact(A2 [.n (.L bA ew)] (.e Vb Va)) q
def Dr:∀(ws ks:List (List Nat)),(∀w∈ws,w.length<=40)->(∀k∈ks,∀w∈ws,k.length<=w.length)->(ws.Pairwise λa b=>a.length<=b.length)->
 (∀k∈ws.foldl dd ks,k∈ks\/k∈ws)/\(∀k∈ks,k∈ws.foldl dd ks)/\∀w∈ws,∃k∈ws.foldl dd ks,Sublist k w:=by
 intro l';induction l' with
 |nil=>exact @λks _ _ _=>⟨λk h=>.inl h,λk h=>h,λw h=>nomatch h⟩
 |cons t ws aU=>
  exact @λks hl hk hp=>by
   refine cu (T7.mp hp) λa1 a2=>?_;have mW:∀k,k∈dd ks t->k∈ks\/k=t:=λk h=>by
    unfold dd at h;split at h
    .exact .inl h
    rcases UU.mp h with h|h
    .exact .inl h
    exact .inr (TX.mp h)
   have kK:∀k∈ks,k∈dd ks t:=λk h=>by
    unfold dd;split
    ·exact h
    exact Tr _ h
   have ht:∃k∈dd ks t,Sublist k t:=by
    unfold dd;split
    ·rename_i q;refine ao (VB.mp q) λk e8 e=>?_;rw[wx k t (hk k e8 t (.head _)) (hl t (.head _))]at e;refine bH k e8 ?_;by_cases z:Sublist k t
     .exact z
     rw[if_neg z]at e;(exfalso;cases e)
    exact bH t (Tf _ (.head _)) (Sublist.refl _)
   refine dW (aU (dd ks t) (λw hw=>hl w (.tail _ hw)) (λk e8 w hw=>by
    rcases mW k e8 with q|q
    .exact hk k q w (.tail _ hw)
    .rw[q];exact a1 w hw) a2) λi1 i2 i3=>?_
   refine⟨λk h=>?_,λk h=>i2 k (kK k h),λw hw=>?_⟩
   .rcases i1 k h with q|q
    .exact(mW k q).imp id λ(e:k=t)=>e▸Ub
    exact .inr (.tail _ q)
   rcases Vr.mp hw with rfl|hw
   .refine ao ht λk e8 z=>?_;exact bH k (i2 k e8) z
   exact i3 w hw
end
noncomputable def Sc(R:List fN)(sp:Sp)(y:Int)(w:List Nat):Prop:=∃n t,jF R sp n [y] t/\Sublist t w
section
variable{R:List fN}{sp:Sp}{t:rb}{w:List Nat}
noncomputable def sX(R:List fN)(sp:Sp)(t:rb)(w:List Nat):Prop:=∀a b,a<=b->b<=w.length->b - a≠w.length->∀y,y∈kU t (bY w a b)↔Sc R sp y (bY w a b)
def tF{K:List Int}:e∈cV t K w y s↔(s<=e/\e<=w.length)/\y∈atEnd t K w s e:=by
 unfold cV;rw[UW,VB];constructor
 .intro bx;(refine cu bx λaB h=>?_;clear bx;(refine ao aB λk hk aB=>?_;subst aB));have:=Vm.mp hk;exact⟨⟨by exact UB _ _,by exact(A3 [.l Va (.s f9 Vc)] (.e (.a Vc Va) Vb)) this⟩,of_decide_eq_true h⟩
 intro bx;(refine cu bx λaB h=>?_;clear bx;refine cu aB λh1 h2=>?_);exact⟨⟨e - s,Vm.mpr ((A3 [.e Va Vb,.e Vb Vc] (.l ux (.s q8 Va))) h1 h2),by exact Nat.add_sub_cancel' ‹_›⟩,Vk h⟩
def vC{K:List Int}(h:e∈cV t K w y s):∃f,(cV t K w y s).head? =some f/\f<=e/\f∈cV t K w y s:=by
 have hp:(cV t K w y s).Pairwise (·<·):=by unfold cV;refine Pairwise.filter _ ?_;rw[Ul];exact pairwise_lt_range.imp λh=>by exact Nat.add_lt_add_left h s
 induction hl:cV t K w y s using List.casesOn with
 |nil=>rw[hl]at h;exact pL h
 |cons f l=>
  rw[hl]at h hp;refine dG f rfl ?_ (.head _);rcases Vr.mp h with rfl|h
  .exact VP _
  exact VE ((T7.mp hp).1 e h)
def qo(w:List Nat):bY w 0 w.length=w:=by unfold bY;exact UA
def qk(w:List Nat)(h1:a<=b)(h2:b<=c):bY w a b++bY w b c=bY w a c:=by
 unfold bY;have e1:c - a=(b - a)+(c - b):=by exact(A3 [.e Va Vb,.e Vb Vc] (.q (.s Vc Va) (.a ux (.s Vc Vb)))) h1 h2
 have e2:w.drop b=(w.drop a).drop (b - a):=by rw[drop_drop];congr 1;exact V7 (add_sub_of_le h1)
 simp only[e1,e2,take_add]
def KU(H:sX R sp t w){K:List Int}(hK:∀y∈K,Sc R sp y w)(h1:s<=e)(h2:e<=w.length)(h:y∈atEnd t K w s e):Sc R sp y (bY w s e):=by
 unfold atEnd at h;split at h
 .rename_i q;have e1:s=0:=by exact(A3 [.e Va Vb,.e Vb Vc,.q ux Vc] (.q Va K0)) h1 h2 q
  have e2:e=w.length:=by exact(A3 [.q vR Vc,.q Vb K0] (.q Va Vc)) q e1
  subst e1 e2;rw[qo];exact hK y h
 rename_i q;exact(H s e h1 h2 q y).mp h
def AJ(K:List Int):∀(r:List Int),r.foldl (bj t K w) (w.length+1)=w.length+1:=by
 intro l';induction l' with
 |nil=>exact rfl
 |cons y r aU=>
  exact by
   have e:bj t K w (w.length+1) y=w.length+1:=by unfold bj cV;rw[Nat.sub_self];rfl
   simp only[UY,e];exact aU
def vn(H:sX R sp t w){K:List Int}(hK:∀y∈K,Sc R sp y w):∀(r:List Int) (s:Nat),s<=w.length->r.foldl (bj t K w) s<=w.length->s<=r.foldl (bj t K w) s/\∃n u,jF R sp n r u/\Sublist u (bY w s (r.foldl (bj t K w) s)):=by
 intro l';induction l' with
 |nil=>exact @λs _ _=>⟨VP _,0,[],.nil,UP _⟩
 |cons y r aU=>
  exact @λs hs h=>by
   rw[UY]at h⊢;induction hh:(cV t K w y s).head? using Option.casesOn with
   |none=>
    have e:bj t K w s y=w.length+1:=by unfold bj;rw[hh];rfl
    rw[e,AJ]at h;lia
   |some f=>
    have e:bj t K w s y=f:=by unfold bj;rw[hh];rfl
    rw[e]at h⊢;(refine cu (tF.mp (mem_of_head? hh)) λaB f3=>?_;refine cu aB λf1 f2=>?_);refine uR (aU f f2 h) λi1 n u i2 i3=>?_;refine d4 (KU H hK f1 f2 f3) λm v j1 j2=>?_;refine aO (j1.append i2) λk hk=>?_;refine⟨by exact Vz ‹_› ‹_›,k,v++u,hk,?_⟩;rw[<-qk w f1 i1];exact j2.append i3
def xD(H:sX R sp t w){K:List Int}(hK:∀m y v,m<=N->jF R sp m [y] v->Sublist v w->y∈K):∀(r:List Int) (s p n:Nat) (u:List Nat),s<=p->p<=w.length->n<=N->jF R sp n r u->Sublist u (w.drop p)->r.foldl (bj t K w) s<=w.length:=by
 intro l';induction l' with
 |nil=>exact @λs p n u h1 h2 _ _ _=>by show s<=_;exact Vz ‹_› ‹_›
 |cons y r aU=>
  exact @λs p n u h1 h2 hn hd hu=>by
   (refine xU (jF.split (xs:=[y]) (ys:=r) hd) λn1 n2 u1 u2 aB DU d1 d2=>?_;subst aB;subst DU);refine bZ (append_sublist_iff.mp hu) λw1 w2 e q1 q2=>?_;have hlen:w.length - p=w1.length+w2.length:=by
    have:=V4 length e
    rwa [UO,TU]at this
   have Rq:w1=bY w p (p+w1.length):=by unfold bY;rw[e,Nat.add_sub_cancel_left,take_left'];rfl
   have Rp:w2=w.drop (p+w1.length):=by rw[<-drop_drop,e,drop_left'];rfl
   have mW:p+w1.length∈cV t K w y s:=by
    refine tF.mpr ⟨⟨by exact(A3 [.e Va Vb] (.e Va nF)) h1,by exact(A4 [.e Va Vb,.q ux (.a Vc Vd)] (.e (.a Va Vc) Vb)) h2 hlen⟩,?_⟩;have kK:Sublist u1 (bY w s (p+w1.length)):=by simp only[<-qk w h1 (UB p w1.length),<-Rq];exact q1.trans (sublist_append_right _ _)
    unfold atEnd;split
    ·rename_i q;have e1:s=0:=by exact(A5 [.e Va Vb,.e Vb Vc,.q (.s Vc Vb) (.a Vd Ve),.q (.s (.a Vb Vd) Va) Vc] (.q Va K0)) h1 h2 hlen q
     have e2:p+w1.length=w.length:=by exact(A4 [.q (.s sd Vc) Vd,.q Vc K0] (.q sd Vd)) q e1
     rw[e1,e2,qo]at kK;exact hK n1 y u1 (le_of_add_right_le hn) d1 kK
    rename_i q;exact(H s (p+w1.length) ((A3 [.e Va Vb] (.e Va nF)) h1) ((A4 [.e Va Vb,.q ux (.a Vc Vd)] (.e (.a Va Vc) Vb)) h2 hlen) q y).mpr ⟨n1,u1,d1,kK⟩
   refine bq (vC mW) λf hf hle R5=>?_;have e3:bj t K w s y=f:=by unfold bj;rw[hf];rfl
   simp only[UY,e3];exact aU f (p+w1.length) n2 u2 hle ((A4 [.e Va Vb,.q ux (.a Vc Vd)] (.e (.a Va Vc) Vb)) h2 hlen) (le_of_add_left_le hn) d2 (Rp▸q2)
def ik(t:rb)(w:List Nat)(R:List fN):∀(rs:List fN) (K:List Int),(∀r∈rs,r∈R)->∃E,rs.foldl (aT t w) K=K++E/\E.Nodup/\∀y∈E,y∉K/\∃r,(y,r)∈R:=by
 intro l';induction l' with
 |nil=>exact @λK _=>⟨[],by exact(UX _).symm,.nil,λy h=>nomatch h⟩
 |cons r rs aU=>
  exact @λK h=>by
   simp only[UY];have step:aT t w K r=K\/(r.1∉K/\aT t w K r=K++[r.1]):=by
    unfold aT;split
    ·exact .inl rfl
    rename_i q;split
    ·exact .inr ⟨q,rfl⟩
    exact .inl rfl
   have hr:(r.1,r.2)∈R:=h r (.head _);rcases step with e|⟨q,e⟩
   .rw[e];exact aU K λz hz=>h z (.tail _ hz)
   rw[e];refine bq (aU (K++[r.1]) λz hz=>h z (.tail _ hz)) λE e1 e2 e3=>?_;refine dG (r.1::E) (by rw[e1,Uh];rfl) (UZ.mpr ⟨λz=>(e3 _ z).1 (Tf _ (.head _)),e2⟩) (λy hy=>?_);rcases Vr.mp hy with rfl|hy
   .exact FN q _ hr
   exact⟨λz=>(e3 y hy).1 (Tr _ z),(e3 y hy).2⟩
def qs(t:rb)(w:List Nat):∀(rs:List fN) (K:List Int),rs.foldl (aT t w) K=K->∀r∈rs,fm t K w r.2<=w.length->r.1∈K:=by
 intro l';induction l' with
 |nil=>exact @λ_ _ r h _=>nomatch h
 |cons q rs aU=>
  exact @λK e r hr hs=>by
   simp only[UY]at e;have hq:aT t w K q=K:=by
    refine bq (ik t w rs rs (aT t w K q) λ_ h=>h) λE e1 _ _=>?_;rw[e1]at e;have hl:=V4 length e;rw[TU]at hl;unfold aT at hl⊢;split
    ·rfl
    rename_i n1;split
    ·rename_i n2;rw[if_neg n1,if_pos n2,TU,Te]at hl;lia
    rfl
   rw[hq]at e;rcases Vr.mp hr with rfl|hr
   .unfold aT at hq;split at hq
    .assumption
    have hl:=V4 length hq;rw[TU,Te]at hl;lia
   exact aU K e r hr hs
theorem oT{α:Type}[DecidableEq α]:∀{l m:List α},l.Nodup->(∀y∈l,y∈m)->l.length<=m.length
 |[],_,_,_=>VO _
 |y::l,m,h,k=>by have hy:=k y (.head _);refine cu (UZ.mp h) λh1 h2=>?_;have:=oT (l:=l) (m:=m.erase y) h2 λz hz=>(mem_erase_of_ne λ(e:z=y)=>h1 (e▸hz)).mpr (k z (.tail _ hz));rw[length_erase_of_mem hy]at this;have:=length_pos_of_mem hy;refine(?_:l.length+1<=_);lia
def three{α:Type}[DecidableEq α]{E names:List α}(h:E.Nodup)(k:∀y∈E,y∈names)(hl:names.length<=E.length):∀y∈names,y∈E:=λy hy=>Decidable.byContradiction λq=>by
 have:=oT (l:=y::E) (m:=names) (UZ.mpr ⟨q,h⟩) λz hz=>by
  rcases Vr.mp hz with rfl|hz
  .exact hy
  exact k z hz
 simp only[Ux]at this;exact absurd ‹_› (V1.mpr ‹_›)
def DL{names:List Int}(hn:names.length=3)(hR:∀r∈R,r.1∈names)(t:rb)(w:List Nat)(K:List Int):∀r∈R,fm t ((R++R++R).foldl (aT t w) K) w r.2<=w.length->r.1∈(R++R++R).foldl (aT t w) K:=by
 (refine Eq.substr Ui ?_;refine Eq.substr Ui ?_);generalize hF:(λK=>R.foldl (aT t w) K)=F;revert F;refine nz ?_;intro F;intro;have Lz:∀K,R.foldl (aT t w) K=F K:=λK=>by rw[<-hF]
 simp only[Lz];have same:∀K,F K=K->∀r∈R,fm t (F K) w r.2<=w.length->r.1∈F K:=λK e r hr hs=>by rw[e]at hs⊢;exact qs t w R K (by rw[Lz];exact e) r hr hs
 by_cases h1:F K=K
 ·(refine Eq.substr h1 ?_;refine Eq.substr h1 ?_);exact same K h1
 by_cases h2:F (F K)=F K
 .rw[h2];exact same _ h2
 by_cases h3:F (F (F K))=F (F K)
 .intro r hr hs;rw[h3]at hs⊢;exact qs t w R _ (by rw[Lz];exact h3) r hr hs
 intro r hr _;refine bq (ik t w R R K λ_ h=>h) λE1 a1 b1 c1=>?_;refine bq (ik t w R R (F K) λ_ h=>h) λE2 a2 b2 c2=>?_;refine bq (ik t w R R (F (F K)) λ_ h=>h) λE3 a3 b3 c3=>?_;rw[Lz]at a1 a2 a3;have n1:E1≠[]:=λq=>h1 (by simp only[a1,q,UX]);have n2:E2≠[]:=λq=>h2 (by simp only[a2,q,UX]);have n3:E3≠[]:=λq=>h3 (by simp only[a3,q,UX]);have l1:=TN.mpr n1;have l2:=TN.mpr n2;have l3:=TN.mpr n3;have jW:(E1++(E2++E3)).Nodup:=by
  rw[Uq,Uq];refine⟨b1,⟨b2,b3,λa ha b hb e=>?_⟩,λa ha b hb e=>?_⟩
  .subst e;exact(c3 a hb).1 (by rw[a2];exact Tf _ ha)
  subst e;rcases UU.mp hb with hb|hb
  .exact(c2 a hb).1 (by rw[a1];exact Tf _ ha)
  exact(c3 a hb).1 (by rw[a2,a1];exact Tr _ (Tf _ ha))
 have:=three jW (names:=names) (λy hy=>by
  have:∃r,(y,r)∈R:=by
   rcases UU.mp hy with hy|hy
   .exact(c1 y hy).2
   rcases UU.mp hy with hy|hy
   .exact(c2 y hy).2
   exact(c3 y hy).2
  refine aO this λr hr=>?_;clear this;exact hR _ hr) (by simp only[TU];exact(A4 [.q Va K3,.l K0 Vb,.l K0 Vc,.l K0 Vd] (.e Va (.a Vb (.a Vc Vd)))) hn l1 l2 l3) r.1 (hR r hr)
 (refine Eq.substr a3 ?_;refine Eq.substr a2 ?_;refine Eq.substr a1 ?_);simp only[UU]at this⊢;rcases this with h|h|h
 .exact .inl (.inl (.inr h))
 .exact .inl (.inr h)
 exact .inr h
def Be{names:List Int}(hn:names.length=3)(hR:∀r∈R,r.1∈names)(Ca:∀p∈sp,look sp p.1=some p.2)(H:sX R sp t w)(y:Int):y∈dn R sp t w↔Sc R sp y w:=by
 have h0:∀y∈known0 sp w,Sc R sp y w:=λy hy=>by unfold known0 at hy;obtain⟨p,hp,rfl⟩:=VB.mp hy;refine cu (UW.mp hp) λh1 h2=>?_;exact⟨_,[p.2],.sign (Ca p h1) .nil,singleton_sublist.mpr (of_decide_eq_true h2)⟩
 have sound:∀(rs:List fN) (K:List Int),(∀r∈rs,r∈R)->(∀y∈K,Sc R sp y w)->∀y∈rs.foldl (aT t w) K,Sc R sp y w:=λrs=>by
  induction rs with
  |nil=>intro K _ h;exact h
  |cons r rs ih=>
   intro K hr hK;simp only[UY];refine ih _ (λz hz=>hr z (.tail _ hz)) ?_;unfold aT;split
   ·exact hK
   split
   ·rename_i q;intro y hy;rcases UU.mp hy with hy|hy
    .exact hK y hy
    rw[TX.mp hy];refine uR (vn H hK r.2 0 (VO _) q) λ_ n u d hu=>?_;refine⟨_,u++[],.call (hr r (.head _)) d .nil,?_⟩;rw[UX];refine hu.trans ?_;unfold bY;rw[Vp];exact take_sublist _ _
   exact hK
 constructor
 .intro hy;exact sound (R++R++R) _ (λr hr=>by simpa using hr) h0 y hy
 intro bx;refine d4 bx λn u d hu=>?_;clear bx;have hc:=DL (R:=R) hn hR t w (known0 sp w);have kK:∀y∈known0 sp w,y∈dn R sp t w:=λy hy=>by refine bq (ik t w (R++R++R) (R++R++R) (known0 sp w) λ_ h=>h) λE e _ _=>?_;unfold dn;rw[e];exact Tr _ hy
 have key:∀n y u,jF R sp n [y] u->Sublist u w->y∈dn R sp t w:=λn=>by
  induction n using Nat.strongRecOn with
  |ind n ih=>
   intro y u d hu
   cases d with
   | @sign n x c xs t e d=>cases d;refine kK y ?_;unfold known0;refine VB.mpr ⟨(y,c),UW.mpr ⟨?_,Vk (singleton_sublist.mp hu)⟩,rfl⟩;refine bq (gg e) λp hp e1 e2=>?_;simp only[<-e1,<-e2];exact hp
   | @call n m x r xs t u hr d1 d2=>cases d2;rw[UX]at hu;refine hc (y,r) hr ?_;exact xD H (N:=n) (λm z v hm hd hv=>ih m (lt_succ_of_le hm) z v hd hv) r 0 0 n _ (VP _) (VO _) (VP _) d1 (by rw[Vp];exact hu)
 exact key n y u d hu
def AF{names:List Int}(hn:names.length=3)(hR:∀r∈R,r.1∈names)(Ca:∀p∈sp,look sp p.1=some p.2)
 (kK:∀(i:Nat) (w:List Nat),words[i]? =some w->∀a b,a<=b->b<=w.length->b - a≠w.length->bY w a b∈words.take i):
 ∀w∈words,∀y,y∈kU (tableOf words R sp) w↔Sc R sp y w:=by
 have key:∀i,∀w∈words.take i,∀y,y∈kU ((words.take i).foldl (eh R sp) []) w↔Sc R sp y w:=λi=>by
  induction i with
  |zero=>intro w hw;simp only[take_zero]at hw;exact pL hw
  |succ i ih=>
   induction e:words[i]? using Option.casesOn with
   |none=>have:words.length<=i:=List.getElem?_eq_none_iff.mp e;rw[SU (by omega)]at ih⊢;exact ih
   |some v=>
    simp only[Ug,e,Option.toList_some,Ui];intro w hw y;refine(?_:y∈kU (d8 _ v (dn R sp _ v)) w↔_);have H:sX R sp ((words.take i).foldl (eh R sp) []) v:=λa b h1 h2 h3 y=>ih _ (kK i v e a b h1 h2 h3) y;unfold kU;by_cases q:w=v
    ·(replace q:=V7 q;subst q)
     rw[e6];exact Be hn hR Ca H y
    rw[iU _ _ q];refine ih w ?_ y;rcases UU.mp hw with hw|hw
    .exact hw
    exact absurd (TX.mp hw) q
 have:=key words.length;rw[UA]at this;exact this
end
def BB(script:List Int):(drawsOf script).length=6/\∀d∈drawsOf script,0<=d:=by
 unfold drawsOf;have key:∀(ps:List Nat) (ds:List Int),ds.length=6->(∀d∈ds,0<=d)->(ps.foldl (dp script) ds).length=6/\∀d∈ps.foldl (dp script) ds,0<=d:=λps=>by
  induction ps with
  |nil=>intro ds h k;exact⟨h,k⟩
  |cons p ps ih=>
   intro ds h k;simp only[UY];refine ih _ (by unfold dp;rw[length_set];exact h) λd hd=>?_;unfold dp at hd;rcases mem_or_eq_of_mem_set hd with q|q
   .exact k d q
   have h1:0<=ds.getD (p%6) 0:=by rw[Su,SK (by exact(A2 [.q Va (.c 6),.l Vb (.c 6)] (.l Vb Va)) h (VZ _ (by decide)))];exact k _ (UH _)
   have h2:0<=(script.getD p 0).fmod 1000000:=by rw[Sz _ (by decide)];exact emod_nonneg _ (by decide)
   exact(I3 [.Q Qa (.a Qb Qc),.E K0 Qb,.E K0 Qc] vP) q h1 h2
 exact key _ oq rfl (by decide)
def AI(d:Nat):∃k0 k1,cR d=[k0,k1]/\k0<26/\k1<26/\k0≠k1:=by
 unfold cR;split
 ·exact f6 _ _ rfl ((A1 [.l Va (.c 24)] (.l Va (.c 26))) (VZ _ (by decide))) ((A1 [.l Va (.c 24)] (.l Va (.c 26))) (VZ _ (by decide))) (by lia)
 split
 ·exact f6 _ _ rfl ((A1 [.l Va (.c 24)] (.l Va (.c 26))) (VZ _ (by decide))) (U2 _ _) ((A1 [.l Va (.c 24)] (.n (.q Va (.c 24)))) (VZ _ (by decide)))
 exact f6 _ _ rfl (U2 _ _) (UG _) (by decide)
def wA:∀k:Fin 26,tokOf (fc k)=numAt k/\fc k<1000/\numAt k≠0/\numAt k<256:=by decide
def Dj:∀k l:Fin 26,k≠l->fc k≠fc l/\numAt k≠numAt l:=by decide
def qH{α:Type}{l:List α}(d:α)(h:i<l.length):l.getD i d∈l:=by rw[Su,SK h];exact UH _
def C2(a b x n0:Int)(p d:Nat):yB ([a,b]++[256,257,x]) [a,b] ((lV ([0]++[a,b]++[256,257,x]) d).filter (b4 n0 p)):=by
 unfold lV;have e:∀u v z:Int,[u,v,z].filter (b4 n0 p)=[u].filter (b4 n0 p)++([v].filter (b4 n0 p)++[z].filter (b4 n0 p)):=λu v z=>by rw[<-T4,<-T4];rfl
 rw[e];refine⟨_,_,_,rfl,?_,?_,?_⟩
 .have hm:([0]++[a,b]++[256,257,x]).getD (d%6) 0∈[0]++[a,b]++[256,257,x]:=qH 0 (by show d%6<6;exact VZ _ (VC _));generalize([0]++[a,b]++[256,257,x]).getD (d%6) 0=u at hm⊢;revert u;refine nz ?_;intro u;intro;by_cases q:b4 n0 p u=true
  .refine .inr ⟨u,?_,by rw[Uy,if_pos q];rfl⟩;have:u≠0:=(of_decide_eq_true q).1;simpa[this]using hm
  exact .inl (by rw[Uy,if_neg q];rfl)
 .have hm:([0]++[a,b]++[256,257,x]).getD (d/6%3) 0∈[0,a,b]:=by
   have:d/6%3=0\/d/6%3=1\/d/6%3=2:=by exact(A1 [.l Va K3] (.o (.q Va K0) (.o (.q Va K1) (.q Va K2)))) (VZ _ (by decide))
   rcases this with h|h|h<;>rw[h]<;>simp
  generalize([0]++[a,b]++[256,257,x]).getD (d/6%3) 0=u at hm⊢;revert u;refine nz ?_;intro u;intro;by_cases q:b4 n0 p u=true
  .refine .inr ⟨u,?_,by rw[Uy,if_pos q];rfl⟩;have:u≠0:=(of_decide_eq_true q).1;simpa[this]using hm
  exact .inl (by rw[Uy,if_neg q];rfl)
 have hm:([0]++[a,b]++[256,257,x]).getD (d/18%6) 0∈[0]++[a,b]++[256,257,x]:=qH 0 (by show d/18%6<6;exact VZ _ (VC _));generalize([0]++[a,b]++[256,257,x]).getD (d/18%6) 0=u at hm⊢;revert u;refine nz ?_;intro u;intro;by_cases q:b4 n0 p u=true
 .refine .inr ⟨u,?_,by rw[Uy,if_pos q];rfl⟩;have:u≠0:=(of_decide_eq_true q).1;simpa[this]using hm
 exact .inl (by rw[Uy,if_neg q];rfl)
def BA(a b:Int)(d:Nat):Ends [a,b] ((endsN.getD (d/108%6) []).map λk=>([a,b]:List Int).getD k 0):=by
 have:d/108%6=0\/d/108%6=1\/d/108%6=2\/d/108%6=3\/d/108%6=4\/d/108%6=5:=by lia
 have ha:a∈[a,b]:=.head _;have hb:b∈[a,b]:=.tail _ (.head _);rcases this with h|h|h|h|h|h<;>rw[h]
 .exact .inl ⟨a,ha,rfl⟩
 .exact .inl ⟨b,hb,rfl⟩
 .exact .inr ⟨a,ha,a,ha,rfl⟩
 .exact .inr ⟨a,ha,b,hb,rfl⟩
 .exact .inr ⟨b,hb,a,ha,rfl⟩
 exact .inr ⟨b,hb,b,hb,rfl⟩
def we(h:yB Sy Ts r)(hs:∀t∈Ts,t∈Sy):(∀y∈r,y∈Sy)/\r.length<=3:=by
 obtain⟨l1,l2,l3,rfl,h1,h2,h3⟩:=h;have one:∀{A l:List Int},(∀t∈A,t∈Sy)->(l=[]\/∃y∈A,l=[y])->(∀y∈l,y∈Sy)/\l.length<=1:=λk q=>by
  rcases q with rfl|⟨y,hy,rfl⟩
  .exact⟨λy h=>(nomatch h),by exact VO _⟩
  exact⟨λz hz=>by rw[TX.mp hz];exact k y hy,VP _⟩
 refine cu (one (λ_ h=>h) h1) λa1 b1=>?_;refine cu (one hs h2) λa2 b2=>?_;refine cu (one (λ_ h=>h) h3) λa3 b3=>?_;refine⟨λy hy=>?_,by simp only[TU];exact(A3 [.e Va K1,.e Vb K1,.e Vc K1] (.e (.a Va nF) K3)) b1 b2 b3⟩;rcases UU.mp hy with hy|hy
 .exact a1 y hy
 rcases UU.mp hy with hy|hy
 .exact a2 y hy
 exact a3 y hy
def qJ(h:Ends Ts e):(∀y∈e,y∈Ts)/\e.length<=3:=by
 rcases h with⟨y,hy,rfl⟩|⟨y,hy,z,hz,rfl⟩
 .exact⟨λu hu=>by rw[TX.mp hu];exact hy,by show 1<=3;exact VC _⟩
 refine⟨λu hu=>?_,by show 2<=3;exact Tc rfl⟩;rcases Vr.mp hu with rfl|hu
 .exact hy
 rw[TX.mp hu];exact hz
def ou(sg:List Nat)(c:Nat)(t:List Nat):valOf sg (c::t)=(sg.idxOf c:Int)*2^t.length+valOf sg t:=by unfold valOf;simp only[Ux,range_succ_eq_map,Vt,Vv,VA];congr 1;congr 1;apply TK;intro k hk;refine(?_:((sg.idxOf (t.getD k 0):Nat):Int)*2^(t.length+1 - 1 - (k+1))=_);congr 2;exact add_sub_sub_add_right t.length 1 k 1
def rH{c0 c1 c:Nat}(hc:c∈[c0,c1])(h:c0≠c1):(c=c0/\[c0,c1].idxOf c=0)\/(c=c1/\[c0,c1].idxOf c=1):=by
 simp only[Vr,Uz,V5]at hc;rcases hc with rfl|rfl
 .left;simp[idxOf_cons]
 right;have:(c0==c)=false:=by exact U1 ‹_›
 simp[idxOf_cons,this]
def uI{c0 c1:Nat}(h:c0≠c1):∀t:List Nat,(∀c∈t,c∈[c0,c1])->0<=valOf [c0,c1] t/\valOf [c0,c1] t<2^t.length:=by
 intro l';induction l' with
 |nil=>exact @λ_=>by show(0:Int)<=0/\(0:Int)<1;decide
 |cons c t aU=>
  exact @λk=>by
   refine cu (aU λz hz=>k z (.tail _ hz)) λh1 h2=>?_;simp only[ou,Ux,Int.pow_succ];rcases rH (k c (.head _)) h with⟨_,e⟩|⟨_,e⟩<;>rw[e]
   .simp;exact(I2 [.E K0 Qa,.L Qa Qb] (.a vP (.L Qa (.r Qb 2)))) h1 h2
   simp;exact(I2 [.E K0 Qa,.L Qa Qb] (.a (.E K0 (.a Qb Qa)) (.L (.a Qb Qa) (.r Qb 2)))) h1 h2
theorem val_inj{c0 c1:Nat}(h:c0≠c1):∀s t:List Nat,(∀c∈s,c∈[c0,c1])->(∀c∈t,c∈[c0,c1])->s.length=t.length->valOf [c0,c1] s=valOf [c0,c1] t->s=t
 |[],[],_,_,_,_=>rfl
 |[],_::_,_,_,e,_=>by trivial
 |_::_,[],_,_,e,_=>by trivial
 |a::s,b::t,hs,ht,e,v=>by
  have e:s.length=t.length:=by simpa using e
  have b1:=uI h s λz hz=>hs z (.tail _ hz);have b2:=uI h t λz hz=>ht z (.tail _ hz);have ih:=val_inj h s t (λz hz=>hs z (.tail _ hz)) (λz hz=>ht z (.tail _ hz)) e;rw[ou,ou,e]at v;rw[e]at b1;rcases rH (hs a (.head _)) h with⟨ea,e1⟩|⟨ea,e1⟩<;>rcases rH (ht b (.head _)) h with⟨eb,e2⟩|⟨eb,e2⟩<;>rw[e1,e2]at v<;>simp at v
  .simp only[ea,eb,ih v]
  .omega
  .omega
  simp only[ea,eb,ih ((I2 [.Q Qa Qb] vQ) v)]
def wI(dr:List Nat)(hd:dr.length=6)(a b x:Int)(c0 c1:Nat)(ha:a≠0/\a<256)(hb:b≠0/\b<256)(hx:258<=x)(picks:List Int):
 ∃r0 r1 r2 e2 r3 e3,eJ ⟨256,[256,257,x],iM [a,b] [256,257,x] dr,[(a,c0),(b,c1)],picks⟩ [a,b] x r0 r1 r2 e2 r3 e3:=by
 have Kr:∀y,(look [(a,c0),(b,c1)] y).isSome=true->y=a\/y=b:=λy h=>by have:=jv.mp h;simpa using this
 have Mu:∀y∈[a,b],(look [(a,c0),(b,c1)] y).isSome=true:=λy h=>jv.mpr (by trivial);let r:=λp=>(lV ([0]++[a,b]++[256,257,x]) (dr.getD p 0)).filter (b4 256 p);let e:=λp=>(endsN.getD (dr.getD p 0/108%6) []).map λk=>([a,b]:List Int).getD k 0;have Ak:iM [a,b] [256,257,x] dr=[(256,r 0),(256,r 1),(257,r 2),(257,e 2),(x,r 3),(x,e 3)]:=rfl;have hs:∀p,yB ([a,b]++[256,257,x]) [a,b] (r p):=λp=>C2 a b x 256 p _;have he:∀p,Ends [a,b] (e p):=λp=>BA a b _;refine ic (r 0) (r 1) (r 2) (e 2) (r 3) (e 3) ⟨⟨λq hq y hy=>?_,λy hy=>?_,λy hy=>?_,.head _⟩,Ak,hx,rfl,rfl,λt ht=>?_,hs 0,hs 1,hs 2,hs 3,he 2,he 3,λh=>?_⟩
 .have h1:y∈[a,b]++[256,257,x]:=by
   have hq:q∈iM [a,b] [256,257,x] dr:=hq;rw[Ak]at hq;simp only[Vr,Uz,V5]at hq;have HG:=λp=>(we (hs p) λt ht=>Tr _ ht).1;have OS:=λp z hz=>Tr [256,257,x] ((qJ (he p)).1 z hz);rcases hq with rfl|rfl|rfl|rfl|rfl|rfl
   .exact HG 0 y hy
   .exact HG 1 y hy
   .exact HG 2 y hy
   .exact OS 2 y hy
   .exact HG 3 y hy
   exact OS 3 y hy
  rcases UU.mp h1 with h|h
  .exact .inl (Mu y h)
  exact .inr h
 .rcases Kr y hy with rfl|rfl
  .exact ha
  exact hb
 .simp only[Vr,Uz,V5]at hy;exact(I2 [.E (.c 258) Qa,.o (.Q Qb rX) (.o (.Q Qb (.c 257)) (.Q Qb Qa))] (.E rX Qb)) hx hy
 .simp only[Vr,Uz,V5]at ht;rcases ht with rfl|rfl
  .exact ha
  exact hb
 have:=(UW.mp h).2;have:=(of_decide_eq_true this).2;exact Bool.noConfusion ‹_›
def Gp(d:Nat):(sD d).natAbs<=10/\sD d≠0:=by
 unfold sD;have:d/8%4=0\/d/8%4=1\/d/8%4=2\/d/8%4=3:=by exact(A1 [.l Va K4] (.o (.q Va K0) (.o (.q Va K1) (.o (.q Va K2) (.q Va K3))))) (VZ _ (by decide))
 rcases this with h|h|h|h<;>rw[h]<;>decide
def AU(d:Nat):(fo d).length=3/\∀k∈fo d,k=0\/k=1:=by refine⟨rfl,λk hk=>?_⟩;unfold fo at hk;revert k;refine mA ?_ (mA ?_ (mA ?_ mN))<;>lia
def xZ(script:List Int):∃(Z:j9) (runs led:List Out),drawsOf script=Z.dr.map (λ(k:Nat)=>(k:Int))/\EX Z runs led:=by
 refine cu (BB script) λQH FT=>?_;generalize yy:(drawsOf script).map toNat=dr;revert dr;refine nz ?_;intro dr;intro;have xe:dr.length=6:=by rw[<-yy,US];exact QH
 have KA:drawsOf script=dr.map λ(k:Nat)=>(k:Int):=by
  simp only[<-yy,VA]
  conv=>lhs;rw[<-map_id (drawsOf script)]
  apply TK;intro d hd;have:=FT d hd;refine(?_:d=((d.toNat:Nat):Int));exact(TJ ‹_›).symm
 refine dw (AI (dr.getD 4 0)) λk0 k1 Ca h0 h1 eH=>?_;refine kS (wA ⟨k0,h0⟩) λta la za ba=>?_;refine kS (wA ⟨k1,h1⟩) λtb lb zb bb=>?_;refine cu (Dj ⟨k0,h0⟩ ⟨k1,h1⟩ λq=>eH (V4 Fin.val q)) λns nn=>?_;dsimp only at ta la za ba tb lb zb bb ns nn;generalize hZ:(⟨dr,k0,k1⟩:j9)=Z;revert Z;refine nz ?_;intro Z;intro;have eZ:Z.dr=dr:=by rw[<-hZ]
 have LF:Z.c0=fc k0:=by rw[<-hZ];rfl
 have LD:Z.c1=fc k1:=by rw[<-hZ];rfl
 have ea:Z.a=numAt k0:=by rw[<-hZ];rfl
 have eb:Z.b=numAt k1:=by rw[<-hZ];rfl
 have Rv:Z.k0=k0:=by rw[<-hZ]
 have Ru:Z.k1=k1:=by rw[<-hZ]
 have hx:258<=Z.x:=by
  have:∀l:List Nat,0<=((l.map λ(k:Nat)=>(k:Int)).sum):=λl=>by
   induction l with
   |nil=>exact VT _
   |cons a l ih=>simp only[Vt,Vv];exact(ar 1 2 [_] [_] [.E K0 Qa] (.E K0 (.a bA Qa))) ih
  have:=this Z.dr;unfold j9.x;exact Int.le_add_of_nonneg_right this
 have ha:Z.a≠0/\Z.a<256:=ea▸⟨za,ba⟩;have hb:Z.b≠0/\Z.b<256:=eb▸⟨zb,bb⟩;have nD:Z.a≠Z.b:=by simp only[ea,eb];exact nn
 have Fs:Z.c0≠Z.c1:=by simp only[LF,LD];exact ns
 refine dm (wI Z.dr (eZ▸xe) Z.a Z.b Z.x Z.c0 Z.c1 ha hb hx []) λr0 r1 r2 e2 r3 e3 g1=>?_;refine dm (wI Z.dr (eZ▸xe) Z.a Z.b Z.x Z.c0 Z.c1 ha hb hx (fo (Z.dr.getD 5 0))) λs0 s1 s2 f2 s3 f3 g2=>?_;have uV:∀r∈Z.rules,r.2.length<=100:=λr hr=>by have hr:r∈Z.P1.rules:=hr;have e:Z.P1.rules=[(256,r0),(256,r1),(257,r2),(257,e2),(Z.x,r3),(Z.x,e3)]:=g1.rules;rw[e]at hr;simp only[Vr,Uz,V5]at hr;have hs:=λ{l} (h:yB ([Z.a,Z.b]++[256,257,Z.x]) [Z.a,Z.b] l)=>(we h λt ht=>Tr _ ht).2;have he:=λ{l} (h:Ends [Z.a,Z.b] l)=>(qJ h).2;have:=hs g1.s0;have:=hs g1.s1;have:=hs g1.s2;have:=hs g1.s3;have:=he g1.e2;have:=he g1.e3;rcases hr with rfl|rfl|rfl|rfl|rfl|rfl<;>dsimp only<;>exact Vz ‹_› (Tc rfl)
 refine bq (C4 (P:=Z.P1) g1 rfl (ET g1 (by show 0<=10;exact VO _) uV)) λruns R1 RA Kq=>?_;refine ao (C3 (P:=Z.P2) g2 (AU _) (ET g2 (by show 3<=10;exact Tc rfl) uV)) λled R2 FY=>?_;have uE:∀c,(∃y,look Z.sp y=some c)->c∈Z.sg:=λc m8=>aO m8 λy e=>by
  refine bq (gg e) λp hp e1 e2=>?_;have hp:p∈[(Z.a,Z.c0),(Z.b,Z.c1)]:=hp;simp only[Vr,Uz,V5]at hp;refine(?_:c∈[Z.c0,Z.c1]);rw[<-e1];rcases hp with rfl|rfl
  .exact .head _
  exact .tail _ (.head _)
 have Oy:∀c∈Z.sg,c<1000:=λc hc=>by
  have hc:c∈[Z.c0,Z.c1]:=hc;simp only[Vr,Uz,V5]at hc;rcases hc with rfl|rfl
  .rw[LF];exact la
  rw[LD];exact lb
 refine cu (Gp (Z.dr.getD 5 0)) λuq Po=>?_;have Fg:∀t∈runs.map Out.text,t.length<=40/\∀c∈t,c∈[Z.c0,Z.c1]:=λt ht=>by obtain⟨o,ho,rfl⟩:=VB.mp ht;exact⟨R1.len o ho,λc hc=>uE c (R1.chr o ho c hc)⟩
 have dH:jr Z.way Z.sg (runs.map Out.text):=by
  refine⟨by rw[US];exact Vz ‹_› (Tc rfl),λt ht=>by have:=(Fg t ht).1;exact Vz ‹_› (Tc rfl),λt ht=>(Fg t ht).2,Oy,by show 2<=10;exact Tc rfl,uq,Po,λt ht=>?_,λs hs t ht=>?_⟩
  .refine cu (uI Fs t (Fg t ht).2) λq1 q2=>?_;refine⟨q1,Int.lt_of_lt_of_le q2 ?_⟩;have:=(Fg t ht).1;have h2:(2:Nat)^t.length<=2^70:=Nat.pow_le_pow_right (VC _) (Vz ‹_› (Tc rfl));have h3:(((2:Nat)^t.length:Nat):Int)=2^t.length:=by simp only[natCast_pow];rfl
   have h4:((2^70:Nat):Int)=2^70:=by rfl
   exact VI.mpr ‹_›
  exact val_inj Fs s t (Fg s hs).2 (Fg t ht).2
 refine cu (Dl dH) λmW zz=>?_;have Nu:∀w∈bP Z.way Z.sg (runs.map Out.text),w.length<=40:=λw hw=>(Fg w ((mW w).mp hw)).1;refine dW (Dr (bP Z.way Z.sg (runs.map Out.text)) [] Nu (λk h=>nomatch h) zz) λyL _ rW=>?_;have yL:∀k∈gu (bP Z.way Z.sg (runs.map Out.text)),k∈bP Z.way Z.sg (runs.map Out.text):=λk hk=>(yL k hk).resolve_left λh=>nomatch h;have rW:∀w∈bP Z.way Z.sg (runs.map Out.text),∃k∈gu (bP Z.way Z.sg (runs.map Out.text)),Sublist k w:=rW;have NB:∀k∈gu (bP Z.way Z.sg (runs.map Out.text)),∃m,jF Z.rules Z.sp m [256] k:=λk hk=>by obtain⟨o,ho,rfl⟩:=VB.mp ((mW k).mp (yL k hk));exact R1.snd o ho
 have Jn:∀m t,jF Z.rules Z.sp m [256] t->∃k∈gu (bP Z.way Z.sg (runs.map Out.text)),Sublist k t:=λm t h=>by refine ao (Hd h) λt' s1 n1=>?_;(refine ao (Kq t' n1) λo ho aB=>?_;subst aB);refine ao (rW o.text ((mW _).mpr (TP ho))) λk hk s2=>?_;exact bH k hk (s2.trans s1)
 have Kt:∃o,led=[o]:=by
  induction led using List.casesOn with
  |nil=>cases FY
  |cons o l=>have:l=[]:=SO.mp (by simpa using FY);exact⟨o,by rw[this]⟩
 refine aO Kt λol yJ=>?_;have OF:ol∈led:=by rw[yJ];exact .head _
 have EI:∃k∈gu (bP Z.way Z.sg (runs.map Out.text)),Sublist k ol.text:=by refine aO (R2.snd ol OF) λm hm=>?_;exact Jn m _ hm
 refine⟨Z,runs,led,by rw[eZ];exact KA,?_⟩;refine⟨eZ▸xe,?_,?_,?_,nD,?_,?_,R1.ok,R2.ok,dH,by exact Vz ‹_› (Tc rfl),by exact(A1 [.q Va K1] (.e Va pj)) FY,λo ho=>⟨by have:=R2.len o ho;exact Vz ‹_› (Tc rfl),λc hc=>Oy c (uE c (R2.chr o ho c hc))⟩,λo ho=>?_,?_,λp hp=>?_,?_,hx,?_,uV,λw hw=>?_⟩
 ·(refine Eq.substr eZ ?_;refine Eq.substr Rv ?_;refine Eq.substr Ru ?_);exact Ca
 .rw[LF,ea];exact ta
 .rw[LD,eb];exact tb
 .rw[LF];exact la
 .rw[LD];exact lb
 .rcases UU.mp ho with ho|ho
  .exact R1.v5 o ho
  exact R2.v5 o ho
 .refine ao EI λk hk _=>?_;exact ne_nil_of_mem (yL k hk)
 .unfold pairsOf at hp;refine ao (UI.mp hp) λk hk hp=>?_;(refine ao (VB.mp hp) λt ht aB=>?_;clear hp;subst aB);refine cu (UW.mp ht) λQq Mi=>?_;have Mi:k.length<=t.length:=of_decide_eq_true Mi;have Qp:t.length<=40:=by
   rcases UU.mp Qq with q|q
   .have:=fG Z.c0 Z.c1 t q;exact Vz ‹_› (by decide)
   (refine ao (VB.mp q) λo ho aB=>?_;clear q;subst aB);exact R2.len o ho
  refine(?_:dF k t=et (T k) (T t));simp only[wx k t Mi Qp,oB]
 .rw[yJ];refine(?_:[cW _ ol.text]=[true]);rw[lL,Vk EI]
 .have e:Z.rules=[(256,r0),(256,r1),(257,r2),(257,e2),(Z.x,r3),(Z.x,e3)]:=g1.rules;rw[e];show 6<=100;exact Tc rfl
 rw[lL];refine UD.mpr ?_;have Nl:∀p∈Z.sp,look Z.sp p.1=some p.2:=λp hp=>by refine e7 ?_ hp;refine(?_:([Z.a,Z.b]:List Int).Nodup);simp[nD]
 have:=AF (R:=Z.rules) (sp:=Z.sp) (names:=Z.names) rfl (λr hr=>g1.left (y:=r.1) (r:=r.2) hr) Nl (words:=wordsOf Z.sg) (qf Z.c0 Z.c1) w hw 256;rw[this];constructor
 .intro bx;refine d4 bx λn t d hu=>?_;refine ao (Jn n t d) λk hk s=>?_;exact bH k hk (s.trans hu)
 intro bx;refine ao bx λk hk s=>?_;refine aO (NB k hk) λm hm=>?_;exact⟨m,k,hm,s⟩
noncomputable def rt(K:Frag)(x:Str):Option Value:=match K.lookup mainGlobals with
 |some o=>match o.data with
  |.dict es _=>nsFind es x
  |_=>none
 |none=>none
def wK{K:Frag}(KI:K.In h)(g:h.Ns mainGlobals mg)(e:rt K x=some v):mg x=some v:=by
 refine cQ g λo es ep ho hd hk hf=>?_;clear g;unfold rt at e;induction hl:K.lookup mainGlobals using Option.casesOn with
 |none=>rw[hl]at e;exact cG e
 |some o'=>have:o'=o:=Option.some.inj ((KI _ _ hl).symm.trans ho);subst this;rw[hl]at e;dsimp only at e;rw[hd]at e;rw[<-hf x];exact e
noncomputable abbrev Ent:=Str×Tok×Int×Tok
noncomputable def u0(P:Params)(T:List Ent):List DictEntry:=T.map λq=>⟨PyData.keyHash P q.1,.str q.1 q.2.1,.int q.2.2.1 q.2.2.2⟩
noncomputable def AP(es:List DictEntry):List Ent:=es.filterMap λe=>match e.key,e.val with
 |.str x t,.int v u=>some (x,t,v,u)
 |_,_=>none
noncomputable def Ar(K:Frag)(a:Addr):List Ent:=match K.lookup a with
 |some o=>match o.data with
  |.dict es _=>AP es.toList
  |_=>[]
 |none=>[]
noncomputable def L9(o:Obj):Bool:=match o.cls,o.data with
 |.none,.fields _=>false
 |_,_=>true
def GK(h:L9 o=true):nv o:=by
 unfold L9 at h;unfold nv;induction hc:o.cls using Value.casesOn with
 |none=>right;intro vs hv;rw[hc,hv]at h;exact fR h
 |_=>left;exact λe=>by cases e
def lookup_mem{K:Frag}(h:K.lookup a=some o):(a,o)∈K:=by
 unfold Frag at K;induction K with
 |nil=>exact cG h
 |cons p K ih=>
  obtain⟨b,q⟩:=p;simp only[UL]at h;split at h
  .rename_i e;have:=Option.some.inj h;subst this;rw[VX.mp e];exact .head _
  exact .tail _ (ih h)
noncomputable def rx:List (Str×Value):=[(S "len",.builtin "len"),(S "min",.builtin "min"),(S "max",.builtin "max"),(S "abs",.builtin "abs"),(S "sum",.builtin "sum"),(S "sorted",.builtin "sorted"),(S "isinstance",.builtin "isinstance"),(S "range",.type "range"),(S "list",.type "list"),(S "zip",.type "zip"),(S "enumerate",.type "enumerate"),(S "tuple",.type "tuple")]
structure LN(q:Program)(loose:List Str)(K:Frag)(P:Params)(J fI fC eA:Addr):Prop where
 IP:∀d∈recsOf pw,d∈recsOf q
 callers:(⟨bN.name,bN.params,bN.body,bN.scope,bN.pos⟩:DefRec)∈recsOf q
 free:∀x∈rx,x.1∉startupNames/\x.1∉loose/\x.1∉(recsOf q).map (·.name)/\x.1∉(litsOf q).map (·.1)/\x.1∉(clssOf q loose).map (·.name)
 c1:PyProof.Rows.valOf q (S "ENDMARKER")=some (.int 0)
 c2:PyProof.Rows.valOf q (S "NT_OFFSET")=some (.int 256)
 c3:PyProof.Rows.valOf q (S "_MAX_STRING_SIZE")=some (.int 40)
 c4:PyProof.Rows.valOf q (S "_MOVE_COST")=some (.int 2)
 c5:PyProof.Rows.valOf q (S "_CASE_COST")=some (.int 1)
 H5:(K.all λp=>L9 p.2)=true
 gJ:rt K (S "TupleComp")=some (.ref J)
 gE:rt K (S "EXACT_TOKEN_TYPES")=some (.ref eA)
 ents:∃n,K.lookup eA=some ⟨.type "dict",none,.dict (u0 P (Ar K eA)).toArray n, #[]⟩
 Gb:(Ar K eA).map (λq=>(q.1,q.2.2.1))=B0.map λkv=>(T kv.1,kv.2)
 IK:(eA==sysModules)=false
 Og:∃nm qual doc pm c ct an o oc vs t,K.lookup fC=some o/\o.data=.func (fnOf nm qual pq.params pq.body pq.scope .none .none doc pm an (.ref c) ct)/\K.lookup c=some oc/\oc.cls=.type "code"/\oc.data=.fields vs/\vs[1]? =some (.str qual t)
 Of:∃nm qual doc pm c ct an o oc vs t,K.lookup fI=some o/\o.data=.func (fnOf nm qual jY.params jY.body jY.scope .none .none doc pm an (.ref c) ct)/\K.lookup c=some oc/\oc.cls=.type "code"/\oc.data=.fields vs/\vs[1]? =some (.str qual t)
 ga:findIn K (.ref J) "__getattribute__"=some (some (.builtin "object.__getattribute__"))
 sT:findIn K (.ref J) "__getattr__"=some none
 cmp:findIn K (.ref J) "compare"=some (some (.ref fC))
 tC:typeIn K (.ref fC)=some (.type "function")
 Er:keepIn K (.ref fC)=true
 H7:makesIn K J=true
 H9:findIn K (.ref J) "__init__"=some (some (.ref fI))
 tI:typeIn K (.ref fI)=some (.type "function")
 sO:keepIn K (.ref J)=true
 hs:findIn K (.ref J) "__setattr__"=some (some (.builtin "object.__setattr__"))
 hp:plainOver K J=true
 ha:findIn K (.ref J) (Str.ofString "comp_select_list")=some none
 ht:takerIn K J (Str.ofString "comp_select_list")=some none
 hh:hasDictIn K J=true
def xJ(r:Reads h v (.int i) as):∃t,v=.int i t:=by
 cases r with
 |int i t=>exact⟨t,rfl⟩
def DM:∀x∈rx,x.1≠(S "__name__")/\bootBuiltins x.1=some x.2:=by intro x hx;simp only[rx,Vr,Uz,V5]at hx;rcases hx with rfl|rfl|rfl|rfl|rfl|rfl|rfl|rfl|rfl|rfl|rfl|rfl<;>exact⟨by decide,by rfl⟩
def vq:∀tab:List Ent,Pairs (strKind prog w) (u0 w.params tab) (tab.map λq=>(q.1,.int q.2.2.1 q.2.2.2)):=by
 intro l';induction l' with
 |nil=>exact .nil
 |cons q tab aU=>exact .cons (strKind_is prog w q.1 q.2.1) rfl (aU)
theorem qp:∀(tab:List Ent) (E:List (List Nat×Int)),(tab.map λq=>(q.1,q.2.2.1))=(E.map λkv=>(T kv.1,kv.2))->dN G h X (E.map kE) (tab.map λq=>(q.1,.int q.2.2.1 q.2.2.2))
 |[],[],_=>dZ.mpr rfl
 |[],_::_,e=>by trivial
 |_::_,[],e=>by trivial
 |q::tab,kv::E,e=>by rw[Vt,Vt]at e;refine cu (List.cons.inj e) λe1 e2=>?_;have h1:q.1=T kv.1:=V4 Prod.fst e1;have h2:q.2.2.1=kv.2:=V4 Prod.snd e1;simp only[Vt,Vt];refine dc.mpr ⟨.int q.2.2.1 q.2.2.2,_,by rw[h1],?_,qp tab E e2⟩;rw[<-h2];exact bO
def Bw:(B0.map λkv=>T kv.1).Nodup:=by decide
section
variable{q:Program}{loose:List Str}{K:Frag}{J fI fC eA:Addr}{FK:ExcName->Option Value}{mg mb:Str->Option Value}
def DF(C:LN q loose K G.w.params J fI fC eA)(Sg:Gs G X h)(KW:K.In G.h₀)(KI:K.In h):Rep G h X F9 (.ref eA):=by
 refine aO C.ents λn hl=>?_;refine dC.mpr ⟨eA,_,rfl,λq=>?_,C.IK,⟨_,_,_,KI _ _ hl,⟨rfl,rfl,rfl⟩,rfl,λe he=>?_,vq _,?_⟩,qp _ _ C.Gb⟩
 .have:=Sg.new eA q;rw[KW _ _ hl]at this;exact yq this
 .have he:=Array.mem_toList_iff.mpr he;unfold u0 at he;(refine ao (VB.mp he) λz _ aB=>?_;clear he;subst aB);exact bH z.1 (strKind_is _ _ _ _) rfl
 rw[VA];have e:=V4 (map Prod.fst) C.Gb;rw[VA,VA]at e;exact e▸Bw
def wz(KI:K.In G.h₀)
 (h:∃nm qual doc pm c ct an o oc vs t,K.lookup f=some o/\o.data=.func (fnOf nm qual params body scope .none .none doc pm an (.ref c) ct)/\K.lookup c=some oc/\oc.cls=.type "code"/\oc.data=.fields vs/\vs[1]? =some (.str qual t)):MethAt G f params body scope:=by
 (refine dm h λnm qual doc pm c ct fS=>?_;clear h;refine lA fS λan o oc vs t h1 uq=>?_;clear fS;refine dk uq λh2 h3 h4 h5 h6=>?_;clear uq);refine⟨nm,qual,doc,pm,.ref c,ct,an,o,KI _ _ h1,h2,⟨c,oc,vs,t,rfl,KI _ _ h3,h5,h6⟩,λc' o' e e'=>?_⟩
 cases e;rw[KI _ _ h3]at e';obtain rfl:=Option.some.inj e';exact c9 h4
def Bd(Tp:Top q loose FK mg mb aw.heap)(KI:K.In aw.heap)(C:LN q loose K w.params J fI fC eA)(hf:mg (S "law")=some (.ref fa))(script:List Int)(hz:script.length<2^20)
 (pg:aw.heap.PlainList l (toArray vs))(hints:vs=vs/\∀(G:Gd) (X:XS),aK G aw.heap X (script.map .int) vs):
 wpAny (model prog w) callerA (call (.ref fa) [.ref l]) (λv s'=>v=.bool true/\OldK aw.heap s'.heap/\s'.os=aw.os/\(AllBare aw.gens->AllBare s'.gens)) (λ_ _=>False) aw:=by
 (refine lA (Tp.tab _ C.callers) λaC oC Rm cC cP t1 fS=>?_;refine dk fS λt2 t3 t4 t5 t6=>?_;clear fS);refine iw (bmod_of_top Tp) λbm ob bmod=>?_;have D0:cP≠cStatics:=λe=>by
  (refine ao Tp.nolimit λmc aB _=>?_;refine fq aB λo es ep ho hd _=>?_;clear aB);rw[<-e,t6.2]at ho;obtain rfl:=Option.some.inj ho
  cases hd
 let G:Gd:={prog:=prog,w:=w,J:=J,h₀:=aw.heap,mg:=mg,mb:=mb,g:=Tp.g,b:=Tp.b,nolimit:=Tp.nolimit,cC:=cC,cP:=cP,E9:= #[],code:=t5,tab:=t6,notStatics:=D0,bm:=bm,ob:=ob,bmod:=bmod,boot:=Tp.builtins};have O9:∀d∈recsOf q,∃c,qe G d.name d.params d.body d.scope (.ref c)/\∀a o fd,mg d.name=some (.ref a)->aw.heap.get? a=some o->o.data=.func fd->fd.code=.ref c:=λd hd=>by
  (refine lA (Tp.fn d hd) λa o pm code doc h1 fS=>?_;refine dW fS λh2 h3 h4=>?_;clear fS);(refine lA (Tp.tab d hd) λa' o' fd c P g1 fS=>?_;refine dk fS λg2 g3 g4 g5 g6=>?_;clear fS);rw[h1]at g1
  cases g1;rw[h2]at g2;obtain rfl:=Option.some.inj g2;rw[h3]at g3
  cases g3;have e:code=.ref c:=g4;subst e;refine bH c ⟨a,o,pm,doc,h1,h2,h3,h4,λc' o' e e'=>?_⟩ (λa' o' Rn e1 e2 e3=>?_)
  .cases e;(refine cu g6 λaB _=>?_;clear g6;refine bZ aB λoo vv k1 k2 _=>?_;clear aB);have e':aw.heap.get? c=some o':=e';rw[k1]at e';obtain rfl:=Option.some.inj e';exact c9 k2
  rw[h1]at e1
  cases e1;rw[h2]at e2;obtain rfl:=Option.some.inj e2;rw[h3]at e3
  cases e3;rfl
 have bn:∀x∈rx,Bn G x.1 x.2:=λx hx=>by refine dk (C.free x hx) λf1 f2 f3 f4 f5=>?_;refine cu (DM x hx) λb1 b2=>?_;exact⟨Tp.free _ f1 f2 f3 f4 f5,(Tp.builtins _ b1).trans b2⟩
 have cst:∀{x:Str} {i:Int},PyProof.Rows.valOf q x=some (.int i)->∃t,mg x=some (.int i t):=λh=>by refine ao (Tp.const _ _ h) λv hv hr=>?_;(refine aO (xJ (hr aw.heap)) λt aB=>?_;subst aB);exact⟨t,hv⟩
 have W:Wd G:={
  fn:=λd hd=>ao (O9 d (C.IP d hd)) λc h _=>⟨_,h⟩
  len:=bn (S "len",.builtin "len") (by exact To (i:=0) rfl)
  min:=bn (S "min",.builtin "min") (by decide)
  max:=bn (S "max",.builtin "max") (by decide)
  abs:=bn (S "abs",.builtin "abs") (by decide)
  sum:=bn (S "sum",.builtin "sum") (by decide)
  sorted:=bn (S "sorted",.builtin "sorted") (by decide)
  isinstance:=bn (S "isinstance",.builtin "isinstance") (by decide)
  range:=bn (S "range",.type "range") (by decide)
  list:=bn (S "list",.type "list") (by decide)
  zip:=bn (S "zip",.type "zip") (by decide)
  enumerate:=bn (S "enumerate",.type "enumerate") (by decide)
  tuple:=bn (S "tuple",.type "tuple") (by decide)
  endmarker:=cst C.c1
  lC:=cst C.c2
  ni:=cst C.c3
  ej:=cst C.c4
  oL:=cst C.c5}
 have hC:iq G:=by
  refine ao (O9 _ C.callers) λc h k=>?_;have e:cC=c:=by
   have:=k aC oC Rm t1 t2 t3;rw[t4]at this
   cases this;rfl
  exact Eq.mpr (V4 (λx=>qe G bN.name bN.params bN.body bN.scope (.ref x)) e) h
 have Y:Co G K fC:={
  Oh:=KI
  H5:=λa o e=>GK (UE.mp C.H5 (a,o) (lookup_mem e))
  ga:=C.ga
  sT:=C.sT
  cmp:=C.cmp
  tC:=C.tC
  keep:=C.Er
  EN:=λod u hl=>findObj_own C.hh C.ha rfl hl}
 have Z:Mk G K fI:={H7:=C.H7,H9:=C.H9,tI:=C.tI,sO:=C.sO,hs:=C.hs,hp:=C.hp,ht:=C.ht,hh:=C.hh,name:=wK KI Tp.g C.gJ,cZ:=wz KI C.Of};have mC:MethAt G fC pq.params pq.body pq.scope:=wz KI C.Og;have hE:zO G (0+5):=λF ρ k p hk=>Ev.glob hk (wK KI Tp.g C.gE) (λX h Sg=>DF C Sg KI (Y.at_ Sg.tb)) (by rfl);refine eR (xZ script) λZl runs led yy ok=>?_;have fl:Fn G (S "law") (0+5+1) [aa script] (.bool true):=by refine Fn.intro (name:=jh.name) (W.at_ jh) kH (λL a cd aD=>?_) (λu pm cd doc=>rfl) (by decide) (by show 1<=18;exact VC _) (by decide);exact Go.ex (Hh W hC hE (λway a b=>vy Y (GC W Y mC way a b)) (λway=>vH Y Z _) script hz Zl yy runs led ok L a cd aD)
 refine cQ fl λa' o' Rn m1 _ _ pl=>?_;clear fl;have:a'=fa:=by
  have m1:mg (S "law")=some (.ref a'):=m1;rw[hf]at m1
  cases m1;rfl
 rw[this]at pl;have room:ec callerA (0+5+1):=⟨rfl,by decide,by decide⟩;have gs:Gs G (λ_=>False) aw.heap:=⟨Tb.start G,λ_ h=>h.elim,λ_ h=>h.elim⟩;refine ay (pl callerA aw (λ_=>False) [.ref l] room gs (a0 (aA.mpr ⟨l,vs,rfl,λh=>h,pg,hints.2 G _⟩) b6)) (λv s' e r=>?_);refine⟨dY.mp r,⟨λb o hb=>?_,e.there⟩,e.os,e.gens⟩;have tb:=e.tb (Tb.start G);by_cases OV:b=cP
 .rw[OV]at hb⊢;rw[t6.2]at hb;rw[<-Option.some.inj hb];refine ao tb.grown λmore _ g2=>?_;refine .inr (.inl ⟨t6.isCodeTable,rfl, #[],more,rfl,?_⟩);exact g2.2
 exact .inl (tb.rest b o OV hb)
end
def xy(wl:WellAll P h vs xs):(∀x∈xs,∃i,x=.int i)->∃script:List Int,xs=script.map .int/\∀(G:Gd) (X:XS),aK G h X (script.map .int) vs:=by
 intro hx;induction xs generalizing vs with
 |nil=>cases wl;exact bH [] rfl (λG X=>b6)
 |cons x xs ih=>
  cases wl with
  |cons w1 w2=>
   (refine aO (hx x (.head _)) λi aB=>?_;subst aB);obtain⟨script,rfl,k⟩:=ih w2 λy hy=>hx y (.tail _ hy)
   cases w1;exact bH (i::script) rfl (λG X=>a0 bO (k G X))
def IV{q:Program}{d:DefRec}(e:recsOf pw=recsOf q)(h:d∈recsOf pw):d∈recsOf q:=e▸h
def PV{q:Program}{loose:List Str}{K:Frag}{FK:ExcName->Option Value}{mg mb:Str->Option Value}{h:Heap}{P:Params}(Tp:Top q loose FK mg mb h)(KI:K.In h)(C:LN q loose K P 38 28 35 57):LN q loose K P 38 28 35 57:=C
def bu:True:=Wa
namespace fin
def tw10242451874928486539:=bu
def tw10329872625359487480:=bu
def tw10383673109516279431:=bu
def tw10567028658651823492:=bu
def tw10580198807604790814:=bu
def tw10807920368746810246:=bu
def tw10852849658779182186:=bu
def tw10874316729293906858:=bu
def tw10875463905939285979:=bu
def tw10895054467252067526:=bu
def tw11154830654865731599:=bu
def tw11336253725339858928:=bu
def tw11466478281803324712:=bu
def tw11615019562542576733:=bu
def tw12118000046449163591:=bu
def tw12180539936304867106:=bu
def tw12212933522069011988:=bu
def tw12237877928780879103:=bu
def tw12284014389350100970:=bu
def tw12409915417874342407:=bu
def tw12448240930570709186:=bu
def tw12464766053444552404:=bu
def tw12567809125941998234:=bu
def tw12649782002744950493:=bu
def tw12711679700452659978:=bu
def tw12740692763255036000:=bu
def tw12751662967071866640:=bu
def tw12754828620847295776:=bu
def tw12996517811204074000:=bu
def tw13162651487661262736:=bu
def tw13177410634674063896:=bu
def tw13199158710529813207:=bu
def tw13294311002278339166:=bu
def tw13337293482115323266:=bu
def tw13360279666012451719:=bu
def tw13383306551100868464:=bu
def tw13467322939085005891:=bu
def tw13516622038369049944:=bu
def tw13790858721211988464:=bu
def tw13870153662132920491:=bu
def tw14210890002308233579:=bu
def tw14431720936831517352:=bu
def tw14497727239971306367:=bu
def tw14517287926952318261:=bu
def tw14665711169546490834:=bu
def tw15149952090015108872:=bu
def tw15205425988870721313:=bu
def tw1529400038249529457:=bu
def tw15344004072050561172:=bu
def tw15546520798649971369:=bu
def tw15564276425815640635:=bu
def tw15566928917628492161:=bu
def tw15583698165555649274:=bu
def tw15675102808854859970:=bu
def tw15692133788150570983:=bu
def tw15815952407149668801:=bu
def tw15832999045522443761:=bu
def tw16115155874713506467:=bu
def tw16128240600218161885:=bu
def tw1613116972386908190:=bu
def tw16137067943136122067:=bu
def tw16196181902256332553:=bu
def tw1625080806587739848:=bu
def tw16275787546110486726:=bu
def tw16401934584784274106:=bu
def tw16496857829328116044:=bu
def tw16502652511500755:=bu
def tw16510490156224867327:=bu
def tw1666694428299288667:=bu
def tw16678980180976206529:=bu
def tw16906536467411238026:=bu
def tw16958243865122950064:=bu
def tw17067295170570645592:=bu
def tw1717465138777567415:=bu
def tw17197158672614542318:=bu
def tw17416127249078093707:=bu
def tw17449020081951674710:=bu
def tw17570709534508481193:=bu
def tw17656766251404061198:=bu
def tw17717364068325071970:=bu
def tw17743408960866722510:=bu
def tw17821466097196317003:=bu
def tw17861066769153400444:=bu
def tw18105285910621931680:=bu
def tw18293562643322913751:=bu
def tw1887099378405440850:=bu
def tw1963134401048803436:=bu
def tw1982079694162106894:=bu
def tw2321816554428607280:=bu
def tw2415902012162501839:=bu
def tw2462912638960843985:=bu
def tw251868834278440796:=bu
def tw2656788454239962097:=bu
def tw2824846461999071874:=bu
def tw3105451386036433885:=bu
def tw3199103547748192838:=bu
def tw3243682811363688027:=bu
def tw3263211703599914710:=bu
def tw3314143786362844604:=bu
def tw3404873503106905745:=bu
def tw3598329298470268980:=bu
def tw3683778510129048087:=bu
def tw3810338749695602999:=bu
def tw3975253019698251321:=bu
def tw4312942655851389009:=bu
def tw4464511205940221809:=bu
def tw4588413851689716618:=bu
def tw480829909506669009:=bu
def tw4879674094562380441:=bu
def tw4928979718650693569:=bu
def tw4950403968356008110:=bu
def tw5293390819737331289:=bu
def tw544173102793226557:=bu
def tw5486226609284752418:=bu
def tw5897612983314593646:=bu
def tw5934825339627483726:=bu
def tw605774654952010374:=bu
def tw6068950659093879613:=bu
def tw6081921254191324426:=bu
def tw6127190174262240918:=bu
def tw612862322836996645:=bu
def tw6144012678527597917:=bu
def tw6454446336052903152:=bu
def tw6650461044873433052:=bu
def tw6707113841082798463:=bu
def tw6956187926921108005:=bu
def tw6968583824967984638:=bu
def tw7000300075881102575:=bu
def tw7055459427971326715:=bu
def tw744865244796547220:=bu
def tw7547296005191728479:=bu
def tw757079261281740938:=bu
def tw7613857476909055813:=bu
def tw7995362448368537469:=bu
def tw8025084765662995669:=bu
def tw8269367382603917829:=bu
def tw8352470293576582857:=bu
def tw8383268338085895543:=bu
def tw8408514402456403777:=bu
def tw8416529770105884409:=bu
def tw8643116662766533202:=bu
def tw8656503046869711584:=bu
def tw891787732878383699:=bu
def tw9218923581257491847:=bu
def tw9357874355931990178:=bu
def tw9387745189664136937:=bu
def tw9746901515087519452:=bu
def tw9913140749668108558:=bu
def tw999798209818781672:=bu
end fin
theorem fin:PySem.Challenge.rw_wz0018_01.Holds:=by
 w_on;o_law;k_head;(case hw=>w_witness2)
 intro w bg aw mg mb Gr Y a o pm cd doc dV kV ho R6 xg hD Ih hg args vals as CQ RB RY vN OF;have KI:=kIn_of Y;refine cu (pre_splitW CQ) λOx Kz=>?_;(refine bZ (hasAllW_cons Ox) λd r aB h1 h2=>?_;clear Ox;subst aB);obtain rfl:=hasAllW_nil h2;(refine ao (hasW_list h1) λxs aB h3=>?_;clear h1;subst aB)
 cases vN with
 |cons w1 w2=>
  cases w2
  cases w1 with
  | @list l vs _ pg wl=>
   obtain⟨script,rfl,xn⟩:=xy wl λx hx=>by have:=hasItemsW_at h3 x hx;(refine aO (hasW_int this) λi aB=>?_;clear this;subst aB);exact⟨i,rfl⟩
   w_cond Kz
   have C:=PV (P:=w.params) Gr.T KI {IP:=(λd=>IV (by kernel_rfl)),callers:=IV (by kernel_rfl) (To bN.ok),free:=(by decide+kernel),c1:=(by kernel_rfl),c2:=(by kernel_rfl),c3:=(by kernel_rfl),c4:=(by kernel_rfl),c5:=(by kernel_rfl),H5:=(by kernel_rfl),gJ:=(by kernel_rfl),gE:=(by kernel_rfl),ents:=⟨48,by kernel_rfl⟩,Gb:=(by kernel_rfl),IK:=(by kernel_rfl),Og:=⟨_,_,_,_,_,_,_,_,_,_,_,rfl,rfl,rfl,rfl,rfl,rfl⟩,Of:=⟨_,_,_,_,_,_,_,_,_,_,_,rfl,rfl,rfl,rfl,rfl,rfl⟩,ga:=(by kernel_rfl),sT:=(by kernel_rfl),cmp:=(by kernel_rfl),tC:=(by kernel_rfl),Er:=(by kernel_rfl),H7:=(by kernel_rfl),H9:=(by kernel_rfl),tI:=(by kernel_rfl),sO:=(by kernel_rfl),hs:=(by kernel_rfl),hp:=(by kernel_rfl),ha:=(by kernel_rfl),ht:=(by kernel_rfl),hh:=(by kernel_rfl)};have:=Bd (prog:=PySem.Challenge.rw_wz0018_01.row.toRowW.prog) (w:=w) (aw:=aw) Gr.T KI C (fa:=a) Ih script (by rename_i h _;rw[US]at h;exact(A1 [.n (.L (.o (.c 63)) bA)] (.l Va ra)) h) (l:=l) (vs:=vs) ⟨0,pg⟩ ⟨rfl,xn⟩;refine VW this (λv s' m8=>kS m8 λe ok os gens=>?_) λ_ _ f=>f.elim;subst e;refine⟨.inl ⟨_,.bool true,[],rfl,λcls=>?_,.bool true,?_,λ_=>⟨.nil,λa h=>nomatch h⟩⟩,ok,os,gens (.of_eq hg)⟩
   .rfl
   wrow_post
end Mine
theorem PySem.Challenge.cw_wz0018_01_holds : PySem.Challenge.rw_wz0018_01.Holds := by
  exact Mine.fin
