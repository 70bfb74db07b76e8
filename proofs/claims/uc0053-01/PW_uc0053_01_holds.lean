import PyProof.Rows.All
import Wide.All
import OpenK.AllK
import Wide.FinOn
import KE.KRevIter
import KE.IntBitsLaws
import KE.KNestM
import KE.BitLaws
import KE.KTops
import PySem.Challenge.RW_uc0053_01
set_option Elab.async false
set_option maxRecDepth 10000
set_option linter.all false
set_option genSizeOf false
set_option genInjectivity false
section
open PySem PySem.W PySem.W.X PyProof.Rows PySem.Challenge
namespace Mine
def zl:=@Array.getElem?_eq_getElem
def rC:=@Array.getElem?_eq_some_iff
def gV:=@Array.length_toList
def cY:=@Bool.and_eq_true
def wo:=@Bool.false_eq_true
def dh:=@Heap.get?_push_of_some
def cV:=@Heap.get?_push_size
def fY:=@Heap.lt_size
def tP:=@Int.add_right_comm
def fB:=@Int.add_zero
def rD:=@Int.fdiv_eq_ediv_of_nonneg
def jx:=@Int.fmod_lt_of_pos
def iw:=@Int.fmod_nonneg_of_pos
def bG:=@Int.le_antisymm
def kj:=@Int.le_max_left
def cO:=@Int.le_refl
def iy:=@Int.mul_comm
def uG:=@Int.mul_le_mul_of_nonneg_right
def uH:=@Int.mul_pos_of_neg_of_neg
def e_:=@Int.mul_zero
def bR:=@Int.natCast_nonneg
def cD:=@Int.ofNat_inj
def bf:=@Int.ofNat_le
def bZ:=@Int.ofNat_lt
def fc:=@Int.one_mul
def dG:=@Int.toNat_of_nonneg
def iz:=@Int.zero_add
def gF:=@Int.zero_mul
def iA:=@IntMulOk.of_le
def lg:=@IntMulOk.of_left
def dM:=@List.all_eq_true
def lq:=@List.append_assoc
def ez:=@List.append_nil
def iV:=@List.dropLast_concat_getLast
def pD:=@List.drop_eq_getElem_cons
def gh:=@List.eq_nil_of_length_eq_zero
def pF:=@List.filterMap_append
def gG:=@List.filterMap_cons
def ko:=@List.filter_cons
def mQ:=@List.flatten_cons
def eE:=@List.foldl_append
def fR:=@List.foldl_cons
def bM:=@List.getD_eq_getElem?_getD
def cE:=@List.getElem?_eq_getElem
def iW:=@List.getElem?_eq_some_iff
def cM:=@List.getElem?_map
def pG:=@List.getElem?_range
def jy:=@List.getElem_mem
def cF:=@List.length_append
def eF:=@List.length_cons
def pH:=@List.length_drop
def aM:=@List.length_map
def rE:=@List.length_replicate
def pI:=@List.length_singleton
def ff:=@List.lookup_cons
def ly:=@List.lookup_eq_some_iff
def dN:=@List.map_append
def bN:=@List.map_cons
def cN:=@List.map_map
def bB:=@List.mem_append
def dY:=@List.mem_append_left
def b_:=@List.mem_append_right
def aB:=@List.mem_cons
def fh:=@List.mem_filter
def rF:=@List.mem_filterMap
def rG:=@List.mem_iff_getElem?
def aQ:=@List.mem_map
def pJ:=@List.mem_of_getElem?
def bS:=@List.mem_range
def ay:=@List.mem_singleton
def ai:=@List.not_mem_nil
def kq:=@List.of_mem_zip
def jz:=@List.replicate_succ
def bh:=@Nat.le_antisymm
def cB:=@Nat.le_of_ble_eq_true
def aR:=@Nat.le_refl
def aX:=@Nat.le_trans
def pK:=@Nat.lt_or_eq_of_le
def lz:=@Nat.mul_le_mul_right
def fj:=@Nat.ne_of_lt
def bC:=@Nat.sub_add_cancel
def gi:=@Nat.zero_le
def c_:=@Option.isSome_iff_exists
def pL:=@Option.map_eq_some_iff
def pM:=@Option.map_some
def iX:=@PyProof.noPylong_of_log2
def mR:=@Sem.bind_eq_wrap'
def gH:=@Str.length_append
def aa:=@if_neg
def af:=@if_pos
def jA:=@seg_execs_cons
def jB:=@seg_execs_nil
def pN:=@wpAny_assignInOrder_more
def fL:=@wpAny_assign_Name
def ao:=@wpAny_bind
def eX:=@wpAny_execs_cons
def lS:=@wpAny_execs_nil
def dZ:=@wpAny_holding
def lT:=@wpAny_loadName_local
def aT:=@wpAny_mono
def aJ:=@wpAny_pure
def fM:=@wpAny_standAt
end Mine
end
section
namespace MinQ
open Mine
inductive Lz where
 |v (i:Nat)
 |n (k:Int)
 |a (x y:Lz)
 |s (x y:Lz)
 |g (x:Lz)
 |m (k:Int) (x:Lz)
 |w (x:Lz) (k:Int)
inductive Ln where
 |v (i:Nat)
 |n (k:Nat)
 |a (x y:Ln)
 |m (k:Nat) (x:Ln)
 |w (x:Ln) (k:Nat)
noncomputable def Lz.d(c:List Int):Lz->Int
 | .v i=>c.getD i 0
 | .n k=>k
 | .a x y=>x.d c+y.d c
 | .s x y=>x.d c-y.d c
 | .g x=> -x.d c
 | .m k x=>k*x.d c
 | .w x k=>x.d c*k
noncomputable def Ln.d(c:List Nat):Ln->Nat
 | .v i=>c.getD i 0
 | .n k=>k
 | .a x y=>x.d c+y.d c
 | .m k x=>k*x.d c
 | .w x k=>x.d c*k
noncomputable def Ln.z:Ln->Lz
 | .v i=>.v i
 | .n k=>.n (Int.ofNat k)
 | .a x y=>.a x.z y.z
 | .m k x=>.m (Int.ofNat k) x.z
 | .w x k=>.w x.z (Int.ofNat k)
noncomputable def rH:List Int->List Int->List Int
 |[],q=>q
 |a::p,[]=>a::p
 |a::p,b::q=>(a+b)::rH p q
noncomputable def jC:List Int->List Int->Int
 |[],_=>0
 |k::p,c=>k*c.headD 0+jC p c.tail
noncomputable abbrev uI(c p:List Int):Int:=jC p c
noncomputable def unit:Nat->List Int
 |0=>[1]
 |i+1=>0::unit i
noncomputable def nM(k:Int):List Int->List Int
 |[]=>[]
 |a::p=>(k*a)::nM k p
noncomputable def Lz.p:Lz->List Int
 | .v i=>0::unit i
 | .n k=>[k]
 | .a x y=>rH x.p y.p
 | .s x y=>rH x.p (nM (-1) y.p)
 | .g x=>nM (-1) x.p
 | .m k x=>nM k x.p
 | .w x k=>nM k x.p
theorem gW: ∀(c p q:List Int),uI c (rH p q)=uI c p+uI c q
 |c,[],q=>(iz _).symm
 |c,a::p,[]=>(fB _).symm
 |c,a::p,b::q=>by
  show(a+b)*c.headD 0+jC (rH p q) c.tail=(a*c.headD 0+jC p c.tail)+(b*c.headD 0+jC q c.tail)
  rw[show jC (rH p q) c.tail=jC p c.tail+jC q c.tail from gW c.tail p q,Int.add_mul];omega
theorem gX(k:Int): ∀(c p:List Int),uI c (nM k p)=k*uI c p
 |c,[]=>(e_ k).symm
 |c,a::p=>by
  show k*a*c.headD 0+jC (nM k p) c.tail=k*(a*c.headD 0+jC p c.tail)
  rw[show jC (nM k p) c.tail=_ from gX k c.tail p,Int.mul_add,Int.mul_assoc]
theorem rJ: ∀(c:List Int) (i:Nat),uI c (unit i)=c.getD i 0
 |[],0=>rfl
 |[],i+1=>by show 0*0+jC (unit i) []=0;rw[show jC (unit i) []=_ from rJ [] i];rfl
 |x::c,0=>by show 1*x+0=x;omega
 |x::c,i+1=>by show 0*x+jC (unit i) c=c.getD i 0;rw[show jC (unit i) c=_ from rJ c i,gF,iz]
theorem Lz.rK(c:List Int): ∀x:Lz,uI (1::c) x.p=x.d c
 | .v i=>by show 0*1+jC (unit i) c=c.getD i 0;rw[show jC (unit i) c=_ from rJ c i];omega
 | .n k=>by show k*1+0=k;omega
 | .a x y=>by show uI (1::c) (rH x.p y.p)=_;rw[gW,rK c x,rK c y];rfl
 | .s x y=>by show uI (1::c) (rH x.p (nM (-1) y.p))=_;rw[gW,gX,rK c x,rK c y,Int.neg_mul,fc];rfl
 | .g x=>by show uI (1::c) (nM (-1) x.p)=_;rw[gX,rK c x,Int.neg_mul,fc];rfl
 | .m k x=>by show uI (1::c) (nM k x.p)=_;rw[gX,rK c x];rfl
 | .w x k=>by show uI (1::c) (nM k x.p)=_;rw[gX,rK c x,iy];rfl
theorem tQ: ∀(c:List Nat) (i:Nat),(c.map Int.ofNat).getD i 0=Int.ofNat (c.getD i 0)
 |[],_=>rfl
 |_::_,0=>rfl
 |_::c,i+1=>tQ c i
theorem Ln.tw(c:List Nat): ∀x:Ln,x.z.d (c.map Int.ofNat)=Int.ofNat (x.d c)
 | .v i=>tQ c i
 | .n _=>rfl
 | .a x y=>by show Lz.d _ x.z+Lz.d _ y.z=_;rw[tw c x,tw c y];rfl
 | .m k x=>by show Int.ofNat k*Lz.d _ x.z=_;rw[tw c x];rfl
 | .w x k=>by show Lz.d _ x.z*Int.ofNat k=_;rw[tw c x];rfl
structure Hz where
 r:Nat
 k:Int
 x:Lz
 y:Lz
structure Hn where
 r:Nat
 k:Int
 x:Ln
 y:Ln
@[reducible] noncomputable def Hz.den(c:List Int)(h:Hz):Prop:=match h.r with|0=>h.x.d c<=h.y.d c|1=>h.x.d c<h.y.d c|_=>h.x.d c=h.y.d c
@[reducible] noncomputable def Hn.den(c:List Nat)(h:Hn):Prop:=match h.r with|0=>h.x.d c<=h.y.d c|1=>h.x.d c<h.y.d c|_=>h.x.d c=h.y.d c
noncomputable def Hz.df(h:Hz):List Int:=rH (rH h.y.p (nM (-1) h.x.p)) (match h.r with|1=>[-1]|_=>[])
noncomputable def Hz.ok(h:Hz):Bool:=match h.r with|0=>decide (0<=h.k)|1=>decide (0<=h.k)|_=>true
noncomputable def NF:List Hz->List Int->List Int
 |[],p=>p
 |h::hs,p=>NF hs (rH p (nM (-h.k) h.df))
noncomputable def JS:List Hz->Bool
 |[]=>true
 |h::hs=>h.ok&&JS hs
@[reducible] noncomputable def EL(c:List Int):List Hz->Prop->Prop
 |[],g=>g
 |h::hs,g=>h.den c->EL c hs g
@[reducible] noncomputable def HG(c:List Nat):List Hn->Prop->Prop
 |[],g=>g
 |h::hs,g=>h.den c->HG c hs g
theorem Hz.le{c:List Int}{h:Hz}(d:h.den c)(o:h.ok=true):0<=h.k*uI (1::c) h.df:=by
 obtain⟨r,k,x,y⟩:=h
 unfold Hz.df
 rw[gW,gW,gX,Lz.rK,Lz.rK]
 match r with
 |0=>
  have d:x.d c<=y.d c:=d
  have o:0<=k:=of_decide_eq_true o
  exact Int.mul_nonneg o (by show 0<=y.d c+ -1*x.d c+0;omega)
 |1=>
  have d:x.d c<y.d c:=d
  have o:0<=k:=of_decide_eq_true o
  refine Int.mul_nonneg o ?_
  show 0<=y.d c+ -1*x.d c+(-1*1+0);omega
 |n+2=>
  have d:x.d c=y.d c:=d
  have:y.d c+ -1*x.d c+0=0:=by omega
  show 0<=k*(y.d c+ -1*x.d c+0)
  rw[this,e_];exact cO _
theorem uJ{c:List Int}{g:Prop}: ∀(hs:List Hz) (p:List Int),JS hs=true->0<=uI (1::c) (NF hs p)->(0<=uI (1::c) p->g)->EL c hs g
 |[],_,_,h,k=>k h
 |h::hs,p,o,e,k=>λd=>by
  have o:(h.ok&&JS hs)=true:=o
  rw[cY] at o
  refine uJ hs _ o.2 e λq=>k ?_
  rw[gW,gX,Int.neg_mul] at q
  have:=Hz.le d o.1
  omega
noncomputable def JT:List Int->Bool
 |[]=>true
 |a::p=>decide (a=0)&&JT p
noncomputable def JU:List Int->Bool
 |[]=>true
 |a::p=>decide (0<=a)&&JT p
noncomputable def EM:List Int->Bool
 |[]=>true
 |a::p=>decide (0<=a)&&EM p
theorem BY: ∀(p c:List Int),JT p=true->uI c p=0
 |[],c,_=>rfl
 |a::p,c,h=>by
  have h:(decide (a=0)&&JT p)=true:=h
  rw[cY] at h
  show a*c.headD 0+jC p c.tail=0
  rw[of_decide_eq_true h.1,show jC p c.tail=_ from BY p c.tail h.2,gF];rfl
theorem EN(c:List Int): ∀p,JU p=true->0<=uI (1::c) p
 |[],_=>cO _
 |a::p,h=>by
  have h:(decide (0<=a)&&JT p)=true:=h
  rw[cY] at h
  show 0<=a*1+jC p c
  rw[show jC p c=_ from BY p c h.2,Int.mul_one,fB];exact of_decide_eq_true h.1
theorem uK: ∀(p:List Int) (c:List Nat),EM p=true->0<=uI (c.map Int.ofNat) p
 |[],_,_=>cO _
 |a::p,c,h=>by
  have h:(decide (0<=a)&&EM p)=true:=h
  rw[cY] at h
  cases c with
  |nil=>exact Int.add_nonneg (Int.mul_nonneg (of_decide_eq_true h.1) (cO 0)) (uK p [] h.2)
  |cons x c=>exact Int.add_nonneg (Int.mul_nonneg (of_decide_eq_true h.1) (bR x)) (uK p c h.2)
noncomputable def JV(hs:List Hz)(g:Hz):Bool:=JS hs&&JU (NF hs g.df)
noncomputable def Hn.z(h:Hn):Hz:=⟨h.r,h.k,h.x.z,h.y.z⟩
noncomputable def JW(hs:List Hn)(g:Hn):Bool:=JS (hs.map Hn.z)&&EM (NF (hs.map Hn.z) g.z.df)
theorem Hn.Gp{c:List Nat}{h:Hn}:h.den c↔h.z.den (c.map Int.ofNat):=by
 obtain⟨r,k,x,y⟩:=h
 match r with
 |0=>show x.d c<=y.d c↔x.z.d _<=y.z.d _;rw[Ln.tw,Ln.tw];exact bf.symm
 |1=>show x.d c<y.d c↔x.z.d _<y.z.d _;rw[Ln.tw,Ln.tw];exact bZ.symm
 |n+2=>show x.d c=y.d c↔x.z.d _=y.z.d _;rw[Ln.tw,Ln.tw];exact cD.symm
theorem zm{c:List Int}{g:Hz}(hr:g.r<=1)(h:0<=uI (1::c) g.df):g.den c:=by
 obtain⟨r,k,x,y⟩:=g
 unfold Hz.df at h
 rw[gW,gW,gX,Lz.rK,Lz.rK] at h
 match r,hr with
 |0,_=>
  have h:0<=y.d c+ -1*x.d c+0:=h
  show x.d c<=y.d c;omega
 |1,_=>
  have h:0<=y.d c+ -1*x.d c+(-1*1+0):=h
  show x.d c<y.d c;omega
noncomputable def rk(g:Hz):Bool:=match g.r with|0=>true|1=>true|_=>false
theorem Gq{g:Hz}(h:rk g=true):g.r<=1:=by
 obtain⟨r,k,x,y⟩:=g
 match r with
 |0=>exact gi _
 |1=>exact aR _
 |n+2=>cases h
theorem cz(c:List Int)(hs:List Hz)(g:Hz)(h:(rk g&&JV hs g)=true):EL c hs (g.den c):=by
 rw[cY] at h
 obtain⟨h1,h2⟩:=h
 unfold JV at h2
 rw[cY] at h2
 exact uJ hs _ h2.1 (EN c _ h2.2) (zm (Gq h1))
theorem zo{c:List Nat}{g:Prop}: ∀(hs:List Hn),EL (c.map Int.ofNat) (hs.map Hn.z) g->HG c hs g
 |[],h=>h
 |x::hs,h=>λd=>zo hs (h (Hn.Gp.mp d))
theorem cn(c:List Nat)(hs:List Hn)(g:Hn)(h:(rk g.z&&JW hs g)=true):HG c hs (g.den c):=by
 rw[cY] at h
 obtain⟨h1,h2⟩:=h
 unfold JW at h2
 rw[cY] at h2
 refine zo hs (uJ _ _ h2.1 (uK _ (1::c) h2.2) λq=>Hn.Gp.mpr (zm (Gq h1) q))
theorem JX(a b:Nat):a<=a-b+b:=by omega
theorem sb(a b:Nat):(b<=a/\ a-b+b=a) \/(a<=b/\ a-b=0):=(Nat.le_total b a).imp (λh=>⟨h,bC h⟩) λh=>⟨h,Nat.sub_eq_zero_of_le h⟩
theorem tn(x:Int):(0<=x/\ (x.toNat:Int)=x) \/(x<=0/\ x.toNat=0):=(Int.le_total 0 x).imp (λh=>⟨h,dG h⟩) λh=>⟨h,Int.toNat_of_nonpos h⟩
theorem nb(x:Int):(0<=x/\ (x.natAbs:Int)=x) \/(x<=0/\ (x.natAbs:Int)= -x):=(Int.le_total 0 x).imp (λh=>⟨h,Int.natAbs_of_nonneg h⟩) λh=>⟨h,Int.ofNat_natAbs_of_nonpos h⟩
theorem mxn(a b:Nat):(b<=a/\ max a b=a) \/(a<=b/\ max a b=b):=(Nat.le_total b a).imp (λh=>⟨h,Nat.max_eq_left h⟩) λh=>⟨h,Nat.max_eq_right h⟩
theorem ZA(a b:Nat):(b<=a/\ min a b=b) \/(a<=b/\ min a b=a):=(Nat.le_total b a).imp (λh=>⟨h,Nat.min_eq_right h⟩) λh=>⟨h,Nat.min_eq_left h⟩
theorem mxz(a b:Int):(b<=a/\ max a b=a) \/(a<=b/\ max a b=b):=(Int.le_total b a).imp (λh=>⟨h,Int.max_eq_left h⟩) λh=>⟨h,Int.max_eq_right h⟩
theorem mnz(a b:Int):(b<=a/\ min a b=b) \/(a<=b/\ min a b=a):=(Int.le_total b a).imp (λh=>⟨h,Int.min_eq_right h⟩) λh=>⟨h,Int.min_eq_left h⟩
theorem hf(e:Nat):e-e/2+e/2=e:=bC (Nat.div_le_self e 2)
@[reducible] noncomputable def L(x y:Ln):Hn:=⟨0,1,x,y⟩
@[reducible] noncomputable def L'(x y:Lz):Hz:=⟨0,1,x,y⟩
@[reducible] noncomputable def K(x y:Ln):Hn:=⟨1,1,x,y⟩
@[reducible] noncomputable def K'(x y:Lz):Hz:=⟨1,1,x,y⟩
@[reducible] noncomputable def E(x y:Ln):Hn:=⟨2,1,x,y⟩
@[reducible] noncomputable def E'(x y:Lz):Hz:=⟨2,1,x,y⟩
@[reducible] noncomputable def F(x y:Ln):Hn:=⟨2,(-1),x,y⟩
@[reducible] noncomputable def F'(x y:Lz):Hz:=⟨2,(-1),x,y⟩
@[reducible] noncomputable def A0:Ln:=.v 0
@[reducible] noncomputable def B0:Lz:=.v 0
@[reducible] noncomputable def A1:Ln:=.v 1
@[reducible] noncomputable def B1:Lz:=.v 1
@[reducible] noncomputable def A2:Ln:=.v 2
@[reducible] noncomputable def B2:Lz:=.v 2
@[reducible] noncomputable def A3:Ln:=.v 3
@[reducible] noncomputable def B3:Lz:=.v 3
@[reducible] noncomputable def A4:Ln:=.v 4
@[reducible] noncomputable def B4:Lz:=.v 4
@[reducible] noncomputable def A5:Ln:=.v 5
@[reducible] noncomputable def B5:Lz:=.v 5
@[reducible] noncomputable def A6:Ln:=.v 6
@[reducible] noncomputable def B6:Lz:=.v 6
@[reducible] noncomputable def A7:Ln:=.v 7
@[reducible] noncomputable def B7:Lz:=.v 7
@[reducible] noncomputable def A8:Ln:=.v 8
@[reducible] noncomputable def B8:Lz:=.v 8
@[reducible] noncomputable def A9:Ln:=.v 9
@[reducible] noncomputable def ZC:Ln:=.v 10
@[reducible] noncomputable def ZD:Ln:=.v 11
@[reducible] noncomputable def B9:Lz:=.v 9
end MinQ
namespace Mine
def au:Lean.Syntax:=.node .none `Lean.Parser.Tactic.tacticSeq #[.node .none `Lean.Parser.Tactic.tacticSeq1Indented #[.node .none `null #[.node .none `Lean.Parser.Tactic.intros #[.atom .none "intros",.node .none `null #[]],.atom .none ";",.node .none `Lean.Parser.Tactic.tacticRfl #[.atom .none "rfl"]]]]
theorem JY{P:Nat->Prop}: ∀j,j<0->P j:=λj h=>absurd h (Nat.not_lt_zero j)
theorem nJ{P:Nat->Prop}{n:Nat}(hn:P n)(h: ∀j,j<n->P j): ∀j,j<n+1->P j:=λj hj=>(Nat.lt_succ_iff_lt_or_eq.mp hj).elim (h j) λe=>e▸hn
theorem AJ{α:Type}{n:Nat}: ∀{l:List α},l.length=n+1-> ∃a r,l=a::r/\ r.length=n:=λ{l} h=>by
 cases l with
 |nil=>exact absurd h (Nat.succ_ne_zero n).symm
 |cons a r=>exact⟨a,r,rfl,Nat.succ.inj h⟩
theorem bk{g:Prop}(h: ∀G:Prop,(g->G)->G):g:=h g id
section
open MinQ
variable{a b c d e f g i j k l m n:Nat}{x y z u v w p q r s t:Int}
theorem Q0:0<=(a:Int):=cz [(a:Int)] [L' (.n 0) B0] (L' (.n 0) B0) rfl (bR a)
theorem Q1(h1:a<c)(h2:b=c):a<b:=cn [a,b,c] [K A0 A2,F A1 A2] (K A0 A1) rfl h1 h2
theorem Q2(h1:0<=x)(h2:¬(0<x)):x=0:=bG (cz [x] [L' B0 (.n 0)] (L' B0 (.n 0)) rfl (Int.not_lt.1 h2)) (cz [x] [L' (.n 0) B0] (L' (.n 0) B0) rfl h1)
theorem Q4(h1:a+1<=b):a<=b:=cn [a,b] [L (.a A0 (.n 1)) A1] (L A0 A1) rfl h1
theorem Q5(h1:a+1<=b):a<b:=cn [a,b] [L (.a A0 (.n 1)) A1] (K A0 A1) rfl h1
theorem Q6(h1:a<=b):a<=b+1:=cn [a,b] [L A0 A1] (L A0 (.a A1 (.n 1))) rfl h1
theorem Q7(h1:a<6)(h2:c=6)(h3:b=c):a<b:=cn [a,b,c] [K A0 (.n 6),F A2 (.n 6),F A1 A2] (K A0 A1) rfl h1 h2 h3
theorem Q8:a<a+1:=cn [a] [] (K A0 (.a A0 (.n 1))) rfl
theorem Q9:0<=1+(a:Int):=cz [(a:Int)] [L' (.n 0) B0] (L' (.n 0) (.a (.n 1) B0)) rfl (bR a)
theorem JZ(h1:x-y=0):x=y:=bG (cz [x,y] [E' (.s B0 B1) (.n 0)] (L' B0 B1) rfl h1) (cz [x,y] [F' (.s B0 B1) (.n 0)] (L' B1 B0) rfl h1)
theorem J0(h1:a=c)(h2:c<=b):a<=b:=cn [a,b,c] [E A0 A2,L A2 A1] (L A0 A1) rfl h1 h2
theorem J1(h1:x<z)(h2:z<y):x<y:=cz [x,y,z] [K' B0 B2,K' B2 B1] (K' B0 B1) rfl h1 h2
theorem J2(h1:0<=x)(h2:x<4):0<=x/\x<=3:=⟨cz [x] [L' (.n 0) B0] (L' (.n 0) B0) rfl h1,cz [x] [K' B0 (.n 4)] (L' B0 (.n 3)) rfl h2⟩
theorem J3(h1:(x=(a:Int)\/x=(a:Int)-6))(h2:c=6)(h3:b=c):x=(a:Int)\/x=(a:Int)-(b:Int):=by lia
theorem NG(h1:0<x):0<=x:=cz [x] [K' (.n 0) B0] (L' (.n 0) B0) rfl h1
theorem NH(h1:0<x):¬(x=0):=Int.ne_of_gt (cz [x] [K' (.n 0) B0] (K' (.n 0) B0) rfl h1)
theorem NI(h1:a<=900):a<=1000:=cn [a] [L A0 (.n 900)] (L A0 (.n 1000)) rfl h1
theorem NJ(h1:a<b+1):a<=b:=cn [a,b] [K A0 (.a A1 (.n 1))] (L A0 A1) rfl h1
theorem Ov(h1:a<b):a<b+1:=cn [a,b] [K A0 A1] (K A0 (.a A1 (.n 1))) rfl h1
theorem NK(h1:a<c)(h2:c<=b):a≠b:=fj (cn [a,b,c] [K A0 A2,L A2 A1] (K A0 A1) rfl h1 h2)
theorem NL(h1:x-y<=z)(h2:z<0):x<y:=cz [x,y,z] [L' (.s B0 B1) B2,K' B2 (.n 0)] (K' B0 B1) rfl h1 h2
theorem NN(h1:0<z)(h2:z<=y-x):x<y:=cz [x,y,z] [K' (.n 0) B2,L' B2 (.s B1 B0)] (K' B0 B1) rfl h1 h2
theorem Ox:x+1+(a:Int)=x+((a+1:Nat):Int):=bG (cz [x,(a:Int)] [] (L' (.a (.a B0 (.n 1)) B1) (.a B0 (.a B1 (.n 1)))) rfl) (cz [x,(a:Int)] [] (L' (.a B0 (.a B1 (.n 1))) (.a (.a B0 (.n 1)) B1)) rfl)
theorem Oz(h1:0<=x):0<x+1:=cz [x] [L' (.n 0) B0] (K' (.n 0) (.a B0 (.n 1))) rfl h1
theorem OA(h1:a<b):a<=b:=cn [a,b] [K A0 A1] (L A0 A1) rfl h1
theorem OB:¬((a:Int)<0):=Int.not_lt.2 (cz [(a:Int)] [L' (.n 0) B0] (L' (.n 0) B0) rfl (bR a))
theorem Q29(h1:¬(b<=a)):a<=b:=cn [a,b] [K A0 A1] (L A0 A1) rfl (Nat.not_le.1 h1)
theorem OC(h1:a+40<b):a<b:=cn [a,b] [K (.a A0 (.n 40)) A1] (K A0 A1) rfl h1
theorem OD(h1:1<=x):0<=x+(a:Int):=cz [x,(a:Int)] [L' (.n 1) B0,L' (.n 0) B1] (L' (.n 0) (.a B0 B1)) rfl h1 (bR a)
theorem OE(h1:a+1<=b+1):a<=b:=cn [a,b] [L (.a A0 (.n 1)) (.a A1 (.n 1))] (L A0 A1) rfl h1
theorem OF(h1:a+b+1<=39):a<=39:=cn [a,b] [L (.a (.a A0 A1) (.n 1)) (.n 39)] (L A0 (.n 39)) rfl h1
theorem Q34(h1:x<=54):(x-7).toNat<48:=by omega
theorem OH(h1:b+1<=a):a=a-1+1:=bh (cn [a,b,(a-1)] [F (.a A2 (.n 1)) A0] (L A0 (.a A2 (.n 1))) rfl (bC (cn [a,b,(a-1)] [L (.a A1 (.n 1)) A0] (L (.n 1) A0) rfl h1))) (cn [a,b,(a-1)] [E (.a A2 (.n 1)) A0] (L (.a A2 (.n 1)) A0) rfl (bC (cn [a,b,(a-1)] [L (.a A1 (.n 1)) A0] (L (.n 1) A0) rfl h1)))
theorem OI(h1:a+1<=b+1):a<=b+1:=cn [a,b] [L (.a A0 (.n 1)) (.a A1 (.n 1))] (L A0 (.a A1 (.n 1))) rfl h1
theorem OJ(h1:b=16777216)(h2:a<=1000):a<=b:=cn [a,b] [F A1 (.n 16777216),L A0 (.n 1000)] (L A0 A1) rfl h1 h2
theorem OL(h1:a<=b+1):a+1<=b+1+1:=cn [a,b] [L A0 (.a A1 (.n 1))] (L (.a A0 (.n 1)) (.a (.a A1 (.n 1)) (.n 1))) rfl h1
theorem ZE(h1:1*a<=b)(h2:b<=200000):a<=200000:=cn [a,b] [L (.m 1 A0) A1,L A1 (.n 200000)] (L A0 (.n 200000)) rfl h1 h2
theorem OM(h1:a<6)(h2:b=6):(a:Int).toNat<b:=cn [a,b] [K A0 (.n 6),F A1 (.n 6)] (K A0 A1) rfl h1 h2
theorem ON(h1:b=16777216)(h2:c=6)(h3:a=c):a<=b:=cn [a,b,c] [F A1 (.n 16777216),E A2 (.n 6),E A0 A2] (L A0 A1) rfl h1 h2 h3
theorem OO(h1:b=16777216)(h2:a<=b):(a:Int)<2^63:=cz [(a:Int),(b:Int)] [E' B1 (.n 16777216),L' B0 B1] (K' B0 (.n (2^63))) rfl (cD.2 h1) (bf.2 h2)
theorem OP(h1:a<c)(h2:b=d)(h3:c=d):(a:Int).toNat<b:=cn [a,b,c,d] [K A0 A2,F A1 A3,E A2 A3] (K A0 A1) rfl h1 h2 h3
theorem Q44(h1:a=b)(h2:b<=1000):0<=(a:Int)/\(a:Int)<=2^40:=⟨cz [(a:Int),(b:Int)] [L' (.n 0) B0] (L' (.n 0) B0) rfl (bR a),cz [(a:Int),(b:Int)] [E' B0 B1,L' B1 (.n 1000)] (L' B0 (.n (2^40))) rfl (cD.2 h1) (bf.2 h2)⟩
theorem ZF:0<=a:=cn [a] [] (L (.n 0) A0) rfl
theorem Q49:1<=a+1:=cn [a] [] (L (.n 1) (.a A0 (.n 1))) rfl
theorem ZG(h1:1<=x):0<=x:=cz [x] [L' (.n 1) B0] (L' (.n 0) B0) rfl h1
theorem ZH(h1:0<x):x≠0:=Int.ne_of_gt (cz [x] [K' (.n 0) B0] (K' (.n 0) B0) rfl h1)
theorem ZI(h1:0<=x):0<=x:=cz [x] [L' (.n 0) B0] (L' (.n 0) B0) rfl h1
theorem ZJ(h1:x<0):x<0:=cz [x] [K' B0 (.n 0)] (K' B0 (.n 0)) rfl h1
theorem ZK(h1:a<7):a<=6:=cn [a] [K A0 (.n 7)] (L A0 (.n 6)) rfl h1
theorem Q55(h1:a<=0):a=0:=bh (cn [a] [L A0 (.n 0)] (L A0 (.n 0)) rfl h1) (cn [a] [] (L (.n 0) A0) rfl)
theorem ZL(h1:a<=6):a<7:=cn [a] [L A0 (.n 6)] (K A0 (.n 7)) rfl h1
theorem ZM:a<=a+1:=cn [a] [] (L A0 (.a A0 (.n 1))) rfl
theorem ZN:¬(a+1=0):=Nat.ne_of_gt (cn [a] [] (K (.n 0) (.a A0 (.n 1))) rfl)
theorem ZO(h1:1<=x):¬(x=0):=Int.ne_of_gt (cz [x] [L' (.n 1) B0] (K' (.n 0) B0) rfl h1)
theorem ZP(h1:¬(0<=x)):x<0:=cz [x] [K' B0 (.n 0)] (K' B0 (.n 0)) rfl (Int.not_le.1 h1)
theorem ZQ(h1:¬(x<0)):0<=x:=cz [x] [L' (.n 0) B0] (L' (.n 0) B0) rfl (Int.not_lt.1 h1)
theorem ZR(h1:1<=a):¬(a=0):=Nat.ne_of_gt (cn [a] [L (.n 1) A0] (K (.n 0) A0) rfl h1)
theorem ZS:a<=a+b:=cn [a,b] [] (L A0 (.a A0 A1)) rfl
theorem Q64(h1:a=b):a<=b:=cn [a,b] [E A0 A1] (L A0 A1) rfl h1
theorem ZT(h1:b=a):a<=b:=cn [a,b] [F A1 A0] (L A0 A1) rfl h1
theorem ZU(h1:0<=x):0<=1+x:=cz [x] [L' (.n 0) B0] (L' (.n 0) (.a (.n 1) B0)) rfl h1
theorem ZV(h1:a<=b):a<=b:=cn [a,b] [L A0 A1] (L A0 A1) rfl h1
theorem ZW:1<=2+(a:Int):=cz [(a:Int)] [L' (.n 0) B0] (L' (.n 1) (.a (.n 2) B0)) rfl (bR a)
theorem ZX:1<=(a:Int)+1:=cz [(a:Int)] [L' (.n 0) B0] (L' (.n 1) (.a B0 (.n 1))) rfl (bR a)
theorem ZY:1+a<=a+1:=cn [a] [] (L (.a (.n 1) A0) (.a A0 (.n 1))) rfl
theorem ZZ:a<=2*a+14:=cn [a] [] (L A0 (.a (.m 2 A0) (.n 14))) rfl
theorem Z0(h1:a<4000):a<9000:=cn [a] [K A0 (.n 4000)] (K A0 (.n 9000)) rfl h1
theorem Z1(h1:x<0):0<=(-x)-1:=cz [x] [K' B0 (.n 0)] (L' (.n 0) (.s (.g B0) (.n 1))) rfl h1
theorem Z2:a*2=a+a:=bh (cn [a] [] (L (.w A0 2) (.a A0 A0)) rfl) (cn [a] [] (L (.a A0 A0) (.w A0 2)) rfl)
theorem Z3(h1:¬(y<=x)):x<=y:=cz [x,y] [K' B0 B1] (L' B0 B1) rfl (Int.not_le.1 h1)
theorem Z4(h1:1<=x):(-2^64)<x:=cz [x] [L' (.n 1) B0] (K' (.g (.n (2^64))) B0) rfl h1
theorem Z5(h1:x<6):x.toNat<6:=by lia
theorem Z6:0<=1+(a:Int)-1:=cz [(a:Int)] [L' (.n 0) B0] (L' (.n 0) (.s (.a (.n 1) B0) (.n 1))) rfl (bR a)
theorem Z7:(-2^40)<=(a:Int):=cz [(a:Int)] [L' (.n 0) B0] (L' (.g (.n (2^40))) B0) rfl (bR a)
theorem Q80:a-b<=a-b:=cn [a,b,(a-b)] [] (L A2 A2) rfl
theorem Z8(h1:1<=a):0+a-1<a:=cn [a,((0+a)-1)] [E (.a A1 (.n 1)) (.a (.n 0) A0)] (K A1 A0) rfl (bC (cn [a,((0+a)-1)] [L (.n 1) A0] (L (.n 1) (.a (.n 0) A0)) rfl h1))
theorem Z9(h1:1<=a)(h2:a<=2^0):a=1:=bh (cn [a] [L A0 (.n (2^0))] (L A0 (.n 1)) rfl h2) (cn [a] [L (.n 1) A0] (L (.n 1) A0) rfl h1)
theorem Z_:(max 800 10)+1<=803:=by decide
theorem Q84(h1:a=c)(h2:b=c):a<=b:=cn [a,b,c] [E A0 A2,F A1 A2] (L A0 A1) rfl h1 h2
theorem Q85(h1:a<=b):a+1<=b+1:=cn [a,b] [L A0 A1] (L (.a A0 (.n 1)) (.a A1 (.n 1))) rfl h1
theorem Q86(h1:0<x)(h2:0<=y):0<x+y:=cz [x,y] [K' (.n 0) B0,L' (.n 0) B1] (K' (.n 0) (.a B0 B1)) rfl h1 h2
theorem Q87(h1:a<=b):a<0+(b+1):=cn [a,b] [L A0 A1] (K A0 (.a (.n 0) (.a A1 (.n 1)))) rfl h1
theorem Q88(h1:a+1<=b):a<=b+1:=cn [a,b] [L (.a A0 (.n 1)) A1] (L A0 (.a A1 (.n 1))) rfl h1
theorem Q89(h1:0<=x)(h2:x<3):0<=x/\x<=3:=⟨cz [x] [L' (.n 0) B0] (L' (.n 0) B0) rfl h1,cz [x] [K' B0 (.n 3)] (L' B0 (.n 3)) rfl h2⟩
theorem Q90(h1:b=16777216)(h2:a<=3):a<=b:=cn [a,b] [F A1 (.n 16777216),L A0 (.n 3)] (L A0 A1) rfl h1 h2
theorem Q91(h1:b=16777216)(h2:a<=8):a<=b:=cn [a,b] [F A1 (.n 16777216),L A0 (.n 8)] (L A0 A1) rfl h1 h2
theorem Q92(h1:a<=b)(h2:¬(a=b)):a<b:=by lia
theorem Q93(h1:b=16777216)(h2:a=6):a<=b:=cn [a,b] [F A1 (.n 16777216),E A0 (.n 6)] (L A0 A1) rfl h1 h2
theorem Q94(h1:a<c)(h2:b=c):a<=b-1:=cn [a,b,c,(b-1)] [K A0 A2,F A1 A2,F (.a A3 (.n 1)) A1] (L A0 A3) rfl h1 h2 (bC (cn [a,b,c,(b-1)] [K A0 A2,F A1 A2] (L (.n 1) A1) rfl h1 h2))
theorem Q95(h1:a+1<=b):a+1<=b+1:=cn [a,b] [L (.a A0 (.n 1)) A1] (L (.a A0 (.n 1)) (.a A1 (.n 1))) rfl h1
theorem Q96(h1:0<=x):((x.toNat:Nat):Int)=x:=bG (cz [x,(x.toNat:Int)] [E' B1 B0] (L' B1 B0) rfl (dG (cz [x,(x.toNat:Int)] [L' (.n 0) B0] (L' (.n 0) B0) rfl h1))) (cz [x,(x.toNat:Int)] [F' B1 B0] (L' B0 B1) rfl (dG (cz [x,(x.toNat:Int)] [L' (.n 0) B0] (L' (.n 0) B0) rfl h1)))
theorem Q97:a+(b+1)=a+1+b:=bh (cn [a,b] [] (L (.a A0 (.a A1 (.n 1))) (.a (.a A0 (.n 1)) A1)) rfl) (cn [a,b] [] (L (.a (.a A0 (.n 1)) A1) (.a A0 (.a A1 (.n 1)))) rfl)
theorem Q98(h1:b=16777216)(h2:a<=200):a<=b:=cn [a,b] [F A1 (.n 16777216),L A0 (.n 200)] (L A0 A1) rfl h1 h2
theorem J4:a+1+b<=a+b+1:=cn [a,b] [] (L (.a (.a A0 (.n 1)) A1) (.a (.a A0 A1) (.n 1))) rfl
theorem OQ:(a:Int)+1=((a+1:Nat):Int):=bG (cz [(a:Int)] [] (L' (.a B0 (.n 1)) (.a B0 (.n 1))) rfl) (cz [(a:Int)] [] (L' (.a B0 (.n 1)) (.a B0 (.n 1))) rfl)
theorem J5:((a:Int)-1).toNat=a-1:=Int.toNat_sub a 1
theorem J6(h1:a<=b)(h2:¬(a=b)):a+1<=b:=by lia
theorem J7:(1+(a:Int)).toNat=1+a:=bh (cn [a] [] (L (.a (.n 1) A0) (.a (.n 1) A0)) rfl) (cn [a] [] (L (.a (.n 1) A0) (.a (.n 1) A0)) rfl)
theorem J8(h1:c=a)(h2:c=d)(h3:d=b):a=b:=bh (cn [a,b,c,d] [F A2 A0,E A2 A3,E A3 A1] (L A0 A1) rfl h1 h2 h3) (cn [a,b,c,d] [E A2 A0,F A2 A3,F A3 A1] (L A1 A0) rfl h1 h2 h3)
theorem J9(h1:a<c)(h2:d<b)(h3:c<=d):a<b:=cn [a,b,c,d] [K A0 A2,K A3 A1,L A2 A3] (K A0 A1) rfl h1 h2 h3
theorem J_(h1:a+(b+1)<=c):a+b<=c:=cn [a,b,c] [L (.a A0 (.a A1 (.n 1))) A2] (L (.a A0 A1) A2) rfl h1
theorem Ka(h1:0<c)(h2:c=b)(h3:a<=c-1):a<b:=cn [a,b,c,(c-1)] [E A2 A1,L A0 A3,E (.a A3 (.n 1)) A2] (K A0 A1) rfl h2 h3 (bC (cn [a,b,c,(c-1)] [K (.n 0) A2] (L (.n 1) A2) rfl h1))
theorem Kc(h1:0<=x)(h2:x<=7):0<=x+1/\x+1<=8:=⟨cz [x] [L' (.n 0) B0] (L' (.n 0) (.a B0 (.n 1))) rfl h1,cz [x] [L' B0 (.n 7)] (L' (.a B0 (.n 1)) (.n 8)) rfl h2⟩
theorem Kd(h1:a*1<=b)(h2:b<=200000):a<=200000:=cn [a,b] [L (.w A0 1) A1,L A1 (.n 200000)] (L A0 (.n 200000)) rfl h1 h2
theorem Ke(h1:a<4)(h2:b=4):(a:Int).toNat<b:=cn [a,b] [K A0 (.n 4),F A1 (.n 4)] (K A0 A1) rfl h1 h2
theorem Kg(h1:b=16777216)(h2:a=c)(h3:c<=6):a<=b:=cn [a,b,c] [F A1 (.n 16777216),E A0 A2,L A2 (.n 6)] (L A0 A1) rfl h1 h2 h3
theorem Kh(h1:0<=x)(h2:x<48):7<=7+x/\7+x<=54:=⟨cz [x] [L' (.n 0) B0] (L' (.n 7) (.a (.n 7) B0)) rfl h1,cz [x] [K' B0 (.n 48)] (L' (.a (.n 7) B0) (.n 54)) rfl h2⟩
theorem Kl(h1:a<((b:Int)-1).toNat):a+1<b:=by omega
theorem Km(h1:a+(c+d)<=b):(min a b)=a:=by lia
theorem Kn:((a+b:Nat):Int)-(a:Int)=(b:Int):=bG (cz [(a:Int),(b:Int)] [] (L' (.s (.a B0 B1) B0) B1) rfl) (cz [(a:Int),(b:Int)] [] (L' B1 (.s (.a B0 B1) B0)) rfl)
theorem Ko:(-2^64)<((a+b:Nat):Int)-(a:Int):=cz [(a:Int),(b:Int)] [L' (.n 0) B1] (K' (.g (.n (2^64))) (.s (.a B0 B1) B0)) rfl (bR b)
theorem Kp:(1+(a:Int)-1).toNat=1+a-1:=by lia
theorem Kq(h1:x.toNat<b)(h2:a=b):x.toNat<a:=by lia
theorem Kr(h1:a+d<=c)(h2:b=d/2):a+b<=c:=cn [a,b,c,d,(d/2)] [L (.a A0 A3) A2,E A1 A4,L (.m 2 A4) A3] (L (.a A0 A1) A2) rfl h1 h2 (Nat.mul_div_le d 2)
theorem Ks(h1:b+c=a+d-1)(h2:c<d):a<=b:=cn [a,b,c,d,((a+d)-1)] [F (.a A1 A2) A4,K A2 A3,F (.a A4 (.n 1)) (.a A0 A3)] (L A0 A1) rfl h1 h2 (bC (cn [a,b,c,d,((a+d)-1)] [K A2 A3] (L (.n 1) (.a A0 A3)) rfl h2))
theorem Ku(h1:b+1<=a):a-b=a-(b+1)+1:=bh (cn [a,b,(a-b),(a-(b+1))] [E (.a A2 A1) A0,F (.a A3 (.a A1 (.n 1))) A0] (L A2 (.a A3 (.n 1))) rfl (bC (cn [a,b,(a-b),(a-(b+1))] [L (.a A1 (.n 1)) A0] (L A1 A0) rfl h1)) (bC (cn [a,b,(a-b),(a-(b+1))] [L (.a A1 (.n 1)) A0] (L (.a A1 (.n 1)) A0) rfl h1))) (cn [a,b,(a-(b+1)),(a-b)] [E (.a A2 (.a A1 (.n 1))) A0,F (.a A3 A1) A0] (L (.a A2 (.n 1)) A3) rfl (bC (cn [a,b,(a-(b+1)),(a-b)] [L (.a A1 (.n 1)) A0] (L (.a A1 (.n 1)) A0) rfl h1)) (bC (cn [a,b,(a-(b+1)),(a-b)] [L (.a A1 (.n 1)) A0] (L A1 A0) rfl h1)))
theorem Kv(h1:0<=x)(h2:x<=3):x=0\/(x=1\/(x=2\/x=3)):=by lia
theorem Kw(h1:c<=b*4)(h2:a<=c+b*0):a<=4*b:=cn [a,b,c] [L A2 (.w A1 4),L A0 (.a A2 (.w A1 0))] (L A0 (.m 4 A1)) rfl h1 h2
theorem Ky(h1:c<6)(h2:a<c)(h3:b=6):(a:Int).toNat<b:=cn [a,b,c] [K A2 (.n 6),K A0 A2,F A1 (.n 6)] (K A0 A1) rfl h1 h2 h3
theorem Kz(h1:d+e<=c)(h2:a=d)(h3:b=e):a+b<=c:=cn [a,b,c,d,e] [L (.a A3 A4) A2,E A0 A3,E A1 A4] (L (.a A0 A1) A2) rfl h1 h2 h3
theorem KA(h1:0<=x)(h2:x<=2^40):(-2^40)<=x/\x<=2^40:=⟨cz [x] [L' (.n 0) B0] (L' (.g (.n (2^40))) B0) rfl h1,cz [x] [L' B0 (.n (2^40))] (L' B0 (.n (2^40))) rfl h2⟩
theorem KC(h1:c=a-a/2)(h2:b=a/2):a=b+c:=by lia
theorem KD(h1:c<5)(h2:a=c+1)(h3:b=6):(a:Int).toNat<b:=cn [a,b,c] [K A2 (.n 5),E A0 (.a A2 (.n 1)),F A1 (.n 6)] (K A0 A1) rfl h1 h2 h3
theorem KG(h1:x.toNat<a)(h2:b=16777216)(h3:a<=b):x<2^63:=cz [x,(a:Int),(b:Int),(x.toNat:Int)] [K' B3 B1,E' B2 (.n 16777216),L' B1 B2,L' B0 B3] (K' B0 (.n (2^63))) rfl (bZ.2 h1) (cD.2 h2) (bf.2 h3) (Int.self_le_toNat x)
theorem KH(h1:a+1<=1400000)(h2:b<=270000):a+1+b<=134217728:=cn [a,b] [L (.a A0 (.n 1)) (.n 1400000),L A1 (.n 270000)] (L (.a (.a A0 (.n 1)) A1) (.n 134217728)) rfl h1 h2
theorem KI(h1:a+2*(b+1)+2<c):a+1+2*b+2<c:=cn [a,b,c] [K (.a (.a A0 (.m 2 (.a A1 (.n 1)))) (.n 2)) A2] (K (.a (.a (.a A0 (.n 1)) (.m 2 A1)) (.n 2)) A2) rfl h1
theorem KJ(h1:a<=b):(max 0 (min (a:Int) (b:Int)))=(a:Int):=by lia
theorem KL(h1:a=b+1)(h2:c=b+1)(h3:x<(c:Int)):x.toNat<a:=by lia
theorem KN(h1:a<(x+1+1-2).toNat)(h2:x<=900):2+(a:Int)<=1000:=by lia
theorem KO(h1:c=d-d/2)(h2:b=d/2):a+b+c=a+d:=by lia
theorem KP(h1:a<((c:Int)-1).toNat)(h2:c=b):(1+(a:Int)).toNat<b:=(tn ((c:Int)-1)).elim (λp0=>bZ.1 (cz [(a:Int),(b:Int),(c:Int),((((c:Int)-1)).toNat:Int)] [K' B0 B3,E' B2 B1,E' B3 (.s B2 (.n 1))] (K' (.a (.n 1) B0) B1) rfl (bZ.2 h1) (cD.2 h2) p0.2)) (λp0=>cn [a,b,c,(((c:Int)-1)).toNat] [⟨1,2,A0,A3⟩,⟨2,2,A3,.n 0⟩] (K (.a (.n 1) A0) A1) rfl h1 p0.2)
theorem KQ(h1:a+1+e<=d)(h2:e=c+b+1):a+b+1+c<=d:=cn [a,b,c,d,e] [L (.a (.a A0 (.n 1)) A4) A3,F A4 (.a (.a A2 A1) (.n 1))] (L (.a (.a (.a A0 A1) (.n 1)) A2) A3) rfl h1 h2
theorem KR(h1:a+1+e<=d)(h2:e=c+b+1):a+b+1+c+1<=d:=cn [a,b,c,d,e] [L (.a (.a A0 (.n 1)) A4) A3,F A4 (.a (.a A2 A1) (.n 1))] (L (.a (.a (.a (.a A0 A1) (.n 1)) A2) (.n 1)) A3) rfl h1 h2
theorem KS(h1:(x=(a:Int)\/x=(a:Int)-(b:Int)))(h2:0<=x)(h3:a<b):x.toNat=a:=by lia
theorem OR:0<=a+1:=cn [a] [] (L (.n 0) (.a A0 (.n 1))) rfl
theorem OS(h1:1<=a):a≠0:=Nat.ne_of_gt (cn [a] [L (.n 1) A0] (K (.n 0) A0) rfl h1)
theorem OT(h1:a=7):a<=7:=cn [a] [E A0 (.n 7)] (L A0 (.n 7)) rfl h1
theorem OU(h1:a=6):0<a:=cn [a] [F A0 (.n 6)] (K (.n 0) A0) rfl h1
theorem OV(h1:x<3):x<=3:=cz [x] [K' B0 (.n 3)] (L' B0 (.n 3)) rfl h1
theorem OW(h1:1<=x):1<=x:=cz [x] [L' (.n 1) B0] (L' (.n 1) B0) rfl h1
theorem OX(h1:a<6):a<=6:=cn [a] [K A0 (.n 6)] (L A0 (.n 6)) rfl h1
theorem OY(h1:7<=x):0<x:=cz [x] [L' (.n 7) B0] (K' (.n 0) B0) rfl h1
theorem OZ(h1:0<x):1<=x:=cz [x] [K' (.n 0) B0] (L' (.n 1) B0) rfl h1
theorem O1(h1:a<7):a<7:=cn [a] [K A0 (.n 7)] (K A0 (.n 7)) rfl h1
theorem O2(h1:a<6):a<=7:=cn [a] [K A0 (.n 6)] (L A0 (.n 7)) rfl h1
theorem O3:a+1≠a:=Nat.ne_of_gt (cn [a] [] (K A0 (.a A0 (.n 1))) rfl)
theorem O4:0+a<=a:=cn [a] [] (L (.a (.n 0) A0) A0) rfl
theorem O5:a≠a+1:=fj (cn [a] [] (K A0 (.a A0 (.n 1))) rfl)
theorem O6(h1:a=6):a<=39:=cn [a] [E A0 (.n 6)] (L A0 (.n 39)) rfl h1
theorem O7:1+803<=4000:=cn [] [] (L (.a (.n 1) (.n 803)) (.n 4000)) rfl
theorem O8(h1:x<=3):x<=900:=cz [x] [L' B0 (.n 3)] (L' B0 (.n 900)) rfl h1
theorem O9(h1:a<=3):a<=999:=cn [a] [L A0 (.n 3)] (L A0 (.n 999)) rfl h1
theorem O_(h1:x<0):¬(x=0):=Int.ne_of_lt (cz [x] [K' B0 (.n 0)] (K' B0 (.n 0)) rfl h1)
theorem Pa(h1:x<0):0<(-x):=cz [x] [K' B0 (.n 0)] (K' (.n 0) (.g B0)) rfl h1
theorem Pb(h1:a=2):a<=1000:=cn [a] [E A0 (.n 2)] (L A0 (.n 1000)) rfl h1
theorem Pc(h1:x<=3):x<=1000:=cz [x] [L' B0 (.n 3)] (L' B0 (.n 1000)) rfl h1
theorem Pd(h1:a=6):a<=1000:=cn [a] [E A0 (.n 6)] (L A0 (.n 1000)) rfl h1
theorem Pe(h1:x<0):¬(0<x):=Int.not_lt.2 (cz [x] [K' B0 (.n 0)] (L' B0 (.n 0)) rfl h1)
theorem Pf(h1:0=(-x)):x=0:=bG (cz [x] [E' (.n 0) (.g B0)] (L' B0 (.n 0)) rfl h1) (cz [x] [F' (.n 0) (.g B0)] (L' (.n 0) B0) rfl h1)
theorem Pg(h1:0<x):(-x)<0:=cz [x] [K' (.n 0) B0] (K' (.g B0) (.n 0)) rfl h1
theorem Ph(h1:0<a):¬(a<1):=Nat.not_lt.2 (cn [a] [K (.n 0) A0] (L (.n 1) A0) rfl h1)
theorem Pj(h1:1<=a):¬(a<1):=Nat.not_lt.2 (cn [a] [L (.n 1) A0] (L (.n 1) A0) rfl h1)
theorem Pn(h1:a<=12):a<=900:=cn [a] [L A0 (.n 12)] (L A0 (.n 900)) rfl h1
theorem Po(h1:7<=x):0<=x-7:=cz [x] [L' (.n 7) B0] (L' (.n 0) (.s B0 (.n 7))) rfl h1
theorem Pp(h1:a<=10):a<=1000:=cn [a] [L A0 (.n 10)] (L A0 (.n 1000)) rfl h1
theorem Pq(h1:1<=x):0<=x-1:=cz [x] [L' (.n 1) B0] (L' (.n 0) (.s B0 (.n 1))) rfl h1
theorem Pu(h1:0<=x):x+1≠0:=Int.ne_of_gt (cz [x] [L' (.n 0) B0] (K' (.n 0) (.a B0 (.n 1))) rfl h1)
theorem Px(h1:0<=x):0<=x+2:=cz [x] [L' (.n 0) B0] (L' (.n 0) (.a B0 (.n 2))) rfl h1
theorem Py(h1:0<x):0<1*x:=cz [x] [K' (.n 0) B0] (K' (.n 0) (.m 1 B0)) rfl h1
theorem Pz(h1:0<=x):0<=x+1:=cz [x] [L' (.n 0) B0] (L' (.n 0) (.a B0 (.n 1))) rfl h1
theorem PB(h1:x<=7):x+1<=8:=cz [x] [L' B0 (.n 7)] (L' (.a B0 (.n 1)) (.n 8)) rfl h1
theorem PC(h1:a+1<6):a<5:=cn [a] [K (.a A0 (.n 1)) (.n 6)] (K A0 (.n 5)) rfl h1
theorem PE(h1:x<=4):x<2^64:=cz [x] [L' B0 (.n 4)] (K' B0 (.n (2^64))) rfl h1
theorem PF:0<=((a+1:Nat):Int):=cz [(a:Int)] [L' (.n 0) B0] (L' (.n 0) (.a B0 (.n 1))) rfl (bR a)
theorem PG(h1:a<=6):a<=2^40:=cn [a] [L A0 (.n 6)] (L A0 (.n (2^40))) rfl h1
theorem PI:a+3<=a+4:=cn [a] [] (L (.a A0 (.n 3)) (.a A0 (.n 4))) rfl
theorem PJ:a+4<=a+5:=cn [a] [] (L (.a A0 (.n 4)) (.a A0 (.n 5))) rfl
theorem PK:a≠a+1+1:=fj (cn [a] [] (K A0 (.a (.a A0 (.n 1)) (.n 1))) rfl)
theorem PL(h1:0<=x):0<=40+x:=cz [x] [L' (.n 0) B0] (L' (.n 0) (.a (.n 40) B0)) rfl h1
theorem PM:a+1-1=a:=bh (cn [a,((a+1)-1)] [E (.a A1 (.n 1)) (.a A0 (.n 1))] (L A1 A0) rfl (bC (cn [a,((a+1)-1)] [] (L (.n 1) (.a A0 (.n 1))) rfl))) (cn [a,((a+1)-1)] [F (.a A1 (.n 1)) (.a A0 (.n 1))] (L A0 A1) rfl (bC (cn [a,((a+1)-1)] [] (L (.n 1) (.a A0 (.n 1))) rfl)))
theorem PN:x+1<=x+2:=cz [x] [] (L' (.a B0 (.n 1)) (.a B0 (.n 2))) rfl
theorem PO:a<a+1+1:=cn [a] [] (K A0 (.a (.a A0 (.n 1)) (.n 1))) rfl
theorem PR:20<=30*a+20:=cn [a] [] (L (.n 20) (.a (.m 30 A0) (.n 20))) rfl
theorem PS(h1:1<=a):a-1<a:=cn [a,(a-1)] [E (.a A1 (.n 1)) A0] (K A1 A0) rfl (bC (cn [a,(a-1)] [L (.n 1) A0] (L (.n 1) A0) rfl h1))
theorem PT(h1:¬(a=0)):¬(a=0):=by omega
theorem PU:1+90003<=100000:=cn [] [] (L (.a (.n 1) (.n 90003)) (.n 100000)) rfl
theorem PV(h1:a=b+1):1<=a:=cn [a,b] [F A0 (.a A1 (.n 1))] (L (.n 1) A0) rfl h1
theorem PW(h1:a+b<=0):a<=0:=cn [a,b] [L (.a A0 A1) (.n 0)] (L A0 (.n 0)) rfl h1
theorem PX(h1:0<=x)(h2:x<1):x=0:=bG (cz [x] [K' B0 (.n 1)] (L' B0 (.n 0)) rfl h2) (cz [x] [L' (.n 0) B0] (L' (.n 0) B0) rfl h1)
theorem PY(h1:¬(x>y)):x<=y:=cz [x,y] [L' B0 B1] (L' B0 B1) rfl (Int.not_lt.1 h1)
theorem PZ(h1:¬(y<x)):x<=y:=cz [x,y] [L' B0 B1] (L' B0 B1) rfl (Int.not_lt.1 h1)
theorem P0(h1:¬(b<a)):a<=b:=cn [a,b] [L A0 A1] (L A0 A1) rfl (Nat.not_lt.1 h1)
theorem P4:a+19<=a+20:=cn [a] [] (L (.a A0 (.n 19)) (.a A0 (.n 20))) rfl
theorem P5(h1:a=16777216):6<a:=cn [a] [F A0 (.n 16777216)] (K (.n 6) A0) rfl h1
theorem P6(h1:a=16777216):6<=a:=cn [a] [F A0 (.n 16777216)] (L (.n 6) A0) rfl h1
theorem P7(h1:x<0):0<(-1)*x:=cz [x] [K' B0 (.n 0)] (K' (.n 0) (.m (-1) B0)) rfl h1
theorem P8:a-(b+1)<=a:=cn [a,b,(a-(b+1))] [L A2 A0] (L A2 A0) rfl (Nat.sub_le a (b+1))
theorem P9(h1:0<x):(-1)*x<0:=cz [x] [K' (.n 0) B0] (K' (.m (-1) B0) (.n 0)) rfl h1
theorem P_(h1:0<=x):(-2^63)<=x:=cz [x] [L' (.n 0) B0] (L' (.g (.n (2^63))) B0) rfl h1
theorem Qa(h1:0<=x):(-2^64)<x:=cz [x] [L' (.n 0) B0] (K' (.g (.n (2^64))) B0) rfl h1
theorem Qc(h1:x<=2000):x<2^64:=cz [x] [L' B0 (.n 2000)] (K' B0 (.n (2^64))) rfl h1
theorem Qd(h1:x<=1000):x<2^64:=cz [x] [L' B0 (.n 1000)] (K' B0 (.n (2^64))) rfl h1
theorem Qe(h1:a<7)(h2:b=7):a<b:=cn [a,b] [K A0 (.n 7),F A1 (.n 7)] (K A0 A1) rfl h1 h2
theorem Qf(h1:a=6)(h2:b=6):a=b:=bh (cn [a,b] [E A0 (.n 6),F A1 (.n 6)] (L A0 A1) rfl h1 h2) (cn [a,b] [F A0 (.n 6),E A1 (.n 6)] (L A1 A0) rfl h1 h2)
theorem Qg(h1:b=a+1):a<b:=cn [a,b] [F A1 (.a A0 (.n 1))] (K A0 A1) rfl h1
theorem Qh(h1:a<b):a<=b+1:=cn [a,b] [K A0 A1] (L A0 (.a A1 (.n 1))) rfl h1
theorem Qi(h1:0<=y)(h2:y<x):0<x:=cz [x,y] [L' (.n 0) B1,K' B1 B0] (K' (.n 0) B0) rfl h1 h2
theorem Qj(h1:b=0)(h2:a=b):a<=0:=cn [a,b] [E A1 (.n 0),E A0 A1] (L A0 (.n 0)) rfl h1 h2
theorem Qk(h1:0<x):256<=255+x:=cz [x] [K' (.n 0) B0] (L' (.n 256) (.a (.n 255) B0)) rfl h1
theorem Ql(h1:a=5):a+0+1=6:=bh (cn [a] [E A0 (.n 5)] (L (.a (.a A0 (.n 0)) (.n 1)) (.n 6)) rfl h1) (cn [a] [F A0 (.n 5)] (L (.n 6) (.a (.a A0 (.n 0)) (.n 1))) rfl h1)
theorem Qm(h1:a=6):0+1+a<=7:=cn [a] [E A0 (.n 6)] (L (.a (.a (.n 0) (.n 1)) A0) (.n 7)) rfl h1
theorem Qn(h1:x<=8):x.toNat<=8:=by lia
theorem Qo:(a:Int)<=1↔a<=1:=⟨λp0=>bf.1 (cz [(a:Int)] [L' B0 (.n 1)] (L' B0 (.n 1)) rfl p0),λp0=>cz [(a:Int)] [L' B0 (.n 1)] (L' B0 (.n 1)) rfl (bf.2 p0)⟩
theorem Qp(h1:1<=a)(h2:¬(a=1)):2<=a:=by lia
theorem Qq(h1:2<=a):¬(1=(a:Int)):=Int.ne_of_lt (cz [(a:Int)] [L' (.n 2) B0] (K' (.n 1) B0) rfl (bf.2 h1))
theorem Qs:(-2^63)<=(a:Int):=cz [(a:Int)] [L' (.n 0) B0] (L' (.g (.n (2^63))) B0) rfl (bR a)
theorem Qt:x+y=y+x:=bG (cz [x,y] [] (L' (.a B0 B1) (.a B1 B0)) rfl) (cz [x,y] [] (L' (.a B1 B0) (.a B0 B1)) rfl)
theorem Qu:x-y+y=x:=bG (cz [x,y] [] (L' (.a (.s B0 B1) B1) B0) rfl) (cz [x,y] [] (L' B0 (.a (.s B0 B1) B1)) rfl)
theorem Qv:900*(7-a)<=90000:=by omega
theorem Qw:a+b-a=b:=bh (cn [a,b,((a+b)-a)] [E (.a A2 A0) (.a A0 A1)] (L A2 A1) rfl (bC (cn [a,b,((a+b)-a)] [] (L A0 (.a A0 A1)) rfl))) (cn [a,b,((a+b)-a)] [F (.a A2 A0) (.a A0 A1)] (L A1 A2) rfl (bC (cn [a,b,((a+b)-a)] [] (L A0 (.a A0 A1)) rfl)))
theorem Qx(h1:4=a+(b+1)):a<=4:=cn [a,b] [F (.n 4) (.a A0 (.a A1 (.n 1)))] (L A0 (.n 4)) rfl h1
theorem Qy(h1:a<=6):a-2-b<=5:=(sb a 2).elim (λp0=>cn [a,b,((a-2)-b),(a-2)] [L A0 (.n 6),E (.a A3 (.n 2)) A0,L A2 A3] (L A2 (.n 5)) rfl h1 p0.2 (Nat.sub_le (a-2) b)) (λp0=>cn [a,b,((a-2)-b),(a-2)] [E A2 (.n 0)] (L A2 (.n 5)) rfl (Nat.sub_eq_zero_of_le (cn [a,b,((a-2)-b),(a-2)] [E A3 (.n 0)] (L A3 A1) rfl p0.2)))
theorem Qz(h1:a<=200000):a<=2^18:=cn [a] [L A0 (.n 200000)] (L A0 (.n (2^18))) rfl h1
theorem QA(h1:6=a+(b+1)):a<6:=cn [a,b] [F (.n 6) (.a A0 (.a A1 (.n 1)))] (K A0 (.n 6)) rfl h1
theorem QB(h1:5=a+(b+1)):a<5:=cn [a,b] [F (.n 5) (.a A0 (.a A1 (.n 1)))] (K A0 (.n 5)) rfl h1
theorem QC(h1:a<=b):a<=b+c:=cn [a,b,c] [L A0 A1] (L A0 (.a A1 A2)) rfl h1
theorem QD(h1:a<=c):a<=b+c:=cn [a,b,c] [L A0 A2] (L A0 (.a A1 A2)) rfl h1
theorem QE(h1:0<=x)(h2:x<2^0):0=x:=bG (cz [x] [L' (.n 0) B0] (L' (.n 0) B0) rfl h1) (cz [x] [K' B0 (.n (2^0))] (L' B0 (.n 0)) rfl h2)
theorem QF(h1:a<=4):(a:Int)-1<=3:=cz [(a:Int)] [L' B0 (.n 4)] (L' (.s B0 (.n 1)) (.n 3)) rfl (bf.2 h1)
theorem QG(h1:a+c=b):a<=b:=cn [a,b,c] [E (.a A0 A2) A1] (L A0 A1) rfl h1
theorem QH(h1:b=a+c):a<=b:=cn [a,b,c] [F A1 (.a A0 A2)] (L A0 A1) rfl h1
theorem QI(h1:¬(0<=x)):256+x<256:=cz [x] [K' B0 (.n 0)] (K' (.a (.n 256) B0) (.n 256)) rfl (Int.not_le.1 h1)
theorem QJ:a+19+5<=a+30:=cn [a] [] (L (.a (.a A0 (.n 19)) (.n 5)) (.a A0 (.n 30))) rfl
theorem QK(h1:a<6):(a:Int)<=2^40:=cz [(a:Int)] [K' B0 (.n 6)] (L' B0 (.n (2^40))) rfl (bZ.2 h1)
theorem QL(h1:¬(b<=a)):a+1<=b:=cn [a,b] [K A0 A1] (L (.a A0 (.n 1)) A1) rfl (Nat.not_le.1 h1)
theorem QM(h1:¬(0<x-y)):x<=y:=cz [x,y] [L' (.s B0 B1) (.n 0)] (L' B0 B1) rfl (Int.not_lt.1 h1)
theorem QN(h1:x<0):¬(256<=255+x):=Int.not_le.2 (cz [x] [K' B0 (.n 0)] (K' (.a (.n 255) B0) (.n 256)) rfl h1)
theorem QO(h1:z<y)(h2:x<=z):x<=y:=cz [x,y,z] [K' B2 B1,L' B0 B2] (L' B0 B1) rfl h1 h2
theorem QS(h1:x<z)(h2:z<=y):x<=y:=cz [x,y,z] [K' B0 B2,L' B2 B1] (L' B0 B1) rfl h1 h2
theorem QT(h1:c=a)(h2:c=b):a=b:=bh (cn [a,b,c] [F A2 A0,E A2 A1] (L A0 A1) rfl h1 h2) (cn [a,b,c] [E A2 A0,F A2 A1] (L A1 A0) rfl h1 h2)
theorem QU(h1:b=1)(h2:a<=3):a+b<=4:=cn [a,b] [E A1 (.n 1),L A0 (.n 3)] (L (.a A0 A1) (.n 4)) rfl h1 h2
theorem QV(h1:a<b):0+a+1<=b:=cn [a,b] [K A0 A1] (L (.a (.a (.n 0) A0) (.n 1)) A1) rfl h1
theorem QW(h1:a<c)(h2:c<=b):a<b:=cn [a,b,c] [K A0 A2,L A2 A1] (K A0 A1) rfl h1 h2
theorem QX(h1:b=a+1):a+1<=b:=cn [a,b] [F A1 (.a A0 (.n 1))] (L (.a A0 (.n 1)) A1) rfl h1
theorem aai(h1:a=1)(h2:b=1):a+b<=2:=cn [a,b] [E A0 (.n 1),E A1 (.n 1)] (L (.a A0 A1) (.n 2)) rfl h1 h2
theorem QY(h1:c<b)(h2:a<=c):a<b:=cn [a,b,c] [K A2 A1,L A0 A2] (K A0 A1) rfl h1 h2
theorem QZ(h1:a=1+b):a=b+1:=bh (cn [a,b] [E A0 (.a (.n 1) A1)] (L A0 (.a A1 (.n 1))) rfl h1) (cn [a,b] [F A0 (.a (.n 1) A1)] (L (.a A1 (.n 1)) A0) rfl h1)
theorem Q3(h1:0<=x)(h2:0<=y):0<=x+y:=cz [x,y] [L' (.n 0) B0,L' (.n 0) B1] (L' (.n 0) (.a B0 B1)) rfl h1 h2
theorem Q_(h1:¬(x<0))(h2:¬(x=0)):0<x:=by lia
theorem Ra(h1:c=a)(h2:c<=b):a<=b:=cn [a,b,c] [F A2 A0,L A2 A1] (L A0 A1) rfl h1 h2
theorem Rb(h1:2<=b)(h2:a=b/2):1<=a:=by lia
theorem Rc(h1:¬(a=1)):¬(1=(a:Int)):=by lia
theorem Rd(h1:a<b-1):1+a<b:=(sb b 1).elim (λp0=>cn [a,b,(b-1)] [K A0 A2,E (.a A2 (.n 1)) A1] (K (.a (.n 1) A0) A1) rfl h1 p0.2) (λp0=>cn [a,b,(b-1)] [⟨1,2,A0,A2⟩,⟨2,2,A2,.n 0⟩] (K (.a (.n 1) A0) A1) rfl h1 p0.2)
theorem Rf(h1:b<5)(h2:a=b+1):a<6:=cn [a,b] [K A1 (.n 5),E A0 (.a A1 (.n 1))] (K A0 (.n 6)) rfl h1 h2
theorem Rg(h1:c<b)(h2:a<=c):a<=b:=cn [a,b,c] [K A2 A1,L A0 A2] (L A0 A1) rfl h1 h2
theorem Rh(h1:0<x)(h2:0<y):0<x+y:=cz [x,y] [K' (.n 0) B0,K' (.n 0) B1] (K' (.n 0) (.a B0 B1)) rfl h1 h2
theorem Ri(h1:a<b):a<b+1+1:=cn [a,b] [K A0 A1] (K A0 (.a (.a A1 (.n 1)) (.n 1))) rfl h1
theorem Rj(h1:a+1=b+1):a=b:=bh (cn [a,b] [E (.a A0 (.n 1)) (.a A1 (.n 1))] (L A0 A1) rfl h1) (cn [a,b] [F (.a A0 (.n 1)) (.a A1 (.n 1))] (L A1 A0) rfl h1)
theorem Rk(h1:0<x-y):1<=x-y:=cz [x,y] [K' (.n 0) (.s B0 B1)] (L' (.n 1) (.s B0 B1)) rfl h1
theorem Rl(h1:b+a+1<=39):a<=39:=cn [a,b] [L (.a (.a A1 A0) (.n 1)) (.n 39)] (L A0 (.n 39)) rfl h1
theorem Rm(h1:0<x-y):x-y≠0:=Int.ne_of_gt (cz [x,y] [K' (.n 0) (.s B0 B1)] (K' (.n 0) (.s B0 B1)) rfl h1)
theorem Rn(h1:a+40<b):a+1<b:=cn [a,b] [K (.a A0 (.n 40)) A1] (K (.a A0 (.n 1)) A1) rfl h1
theorem Ro(h1:b=6)(h2:a=b):a<=2^40:=cn [a,b] [E A1 (.n 6),E A0 A1] (L A0 (.n (2^40))) rfl h1 h2
theorem Rp(h1:¬(a=0)):a=a-1+1:=by lia
theorem Rq:a+b<=a+b+1:=cn [a,b] [] (L (.a A0 A1) (.a (.a A0 A1) (.n 1))) rfl
theorem Rr:1+(a+1)=1+a+1:=bh (cn [a] [] (L (.a (.n 1) (.a A0 (.n 1))) (.a (.a (.n 1) A0) (.n 1))) rfl) (cn [a] [] (L (.a (.a (.n 1) A0) (.n 1)) (.a (.n 1) (.a A0 (.n 1)))) rfl)
theorem Rt(h1:a<=16777216):a<=16777216:=cn [a] [L A0 (.n 16777216)] (L A0 (.n 16777216)) rfl h1
theorem Ru(h1:x<y):(max x y)=y:=bG (Int.max_le.2 ⟨cz [x,y] [K' B0 B1] (L' B0 B1) rfl h1,cz [x,y] [] (L' B1 B1) rfl⟩) (cz [x,y,(max x y)] [L' B1 B2] (L' B1 B2) rfl (Int.le_max_right x y))
theorem Rv(h1:a<b)(h2:b<=1000):a<=1000:=cn [a,b] [K A0 A1,L A1 (.n 1000)] (L A0 (.n 1000)) rfl h1 h2
theorem Rw(h1:b-a=c+1):a<b:=(sb b a).elim (λp0=>cn [a,b,c,(b-a)] [F A3 (.a A2 (.n 1)),E (.a A3 A0) A1] (K A0 A1) rfl h1 p0.2) (λp0=>(Nat.lt_irrefl 0 (cn [a,b,c,(b-a)] [F A3 (.a A2 (.n 1)),E A3 (.n 0)] (K (.n 0) (.n 0)) rfl h1 p0.2)).elim)
theorem Rx(h1:a<=1000):(a:Int)<=2^40:=cz [(a:Int)] [L' B0 (.n 1000)] (L' B0 (.n (2^40))) rfl (bf.2 h1)
theorem Ry(h1:b+c<=a)(h2:1<=c):1<=a:=cn [a,b,c] [L (.a A1 A2) A0,L (.n 1) A2] (L (.n 1) A0) rfl h1 h2
theorem Rz(h1:a+b=0):a+b<=c:=cn [a,b,c] [E (.a A0 A1) (.n 0)] (L (.a A0 A1) A2) rfl h1
theorem RA(h1:x=(-1)*y):x=(-y):=bG (cz [x,y] [E' B0 (.m (-1) B1)] (L' B0 (.g B1)) rfl h1) (cz [x,y] [F' B0 (.m (-1) B1)] (L' (.g B1) B0) rfl h1)
theorem RB(h1:0<x):2^40<=2^40*x:=by lia
theorem RC(h1:a+(c+1)<=b):a<b:=cn [a,b,c] [L (.a A0 (.a A2 (.n 1))) A1] (K A0 A1) rfl h1
theorem RD(h1:b=16777216)(h2:a<=4):a<b:=cn [a,b] [F A1 (.n 16777216),L A0 (.n 4)] (K A0 A1) rfl h1 h2
theorem RE(h1:a<=1522):1+a<=134217728:=cn [a] [L A0 (.n 1522)] (L (.a (.n 1) A0) (.n 134217728)) rfl h1
theorem RG:(max 90000 800)+1<=90003:=by decide
theorem RH(h1:b=16777216)(h2:a=7):a<=b:=cn [a,b] [F A1 (.n 16777216),E A0 (.n 7)] (L A0 A1) rfl h1 h2
theorem RI(h1:a<6)(h2:b=16777216):a<=b:=cn [a,b] [K A0 (.n 6),F A1 (.n 16777216)] (L A0 A1) rfl h1 h2
theorem RJ(h1:¬(b<=a)):a+2<=b+1:=cn [a,b] [K A0 A1] (L (.a A0 (.n 2)) (.a A1 (.n 1))) rfl (Nat.not_le.1 h1)
theorem RK(h1:¬(b<=a)):a+1<=b+1:=cn [a,b] [K A0 A1] (L (.a A0 (.n 1)) (.a A1 (.n 1))) rfl (Nat.not_le.1 h1)
theorem RL(h1:0<y-x)(h2:¬(0<y)):x<0:=cz [x,y] [K' (.n 0) (.s B1 B0),L' B1 (.n 0)] (K' B0 (.n 0)) rfl h1 (Int.not_lt.1 h2)
theorem RM(h1:x-y<0):x-y<=(-1):=cz [x,y] [K' (.s B0 B1) (.n 0)] (L' (.s B0 B1) (.g (.n 1))) rfl h1
theorem RN(h1:y<x):0<=x+((-y)-1):=cz [x,y] [K' B1 B0] (L' (.n 0) (.a B0 (.s (.g B1) (.n 1)))) rfl h1
theorem RO(h1:0<=y):x+((-y)-1)<x:=cz [x,y] [L' (.n 0) B1] (K' (.a B0 (.s (.g B1) (.n 1))) B0) rfl h1
theorem RP(h1:0<x-y):¬(x-y<0):=Int.not_lt.2 (cz [x,y] [K' (.n 0) (.s B0 B1)] (L' (.n 0) (.s B0 B1)) rfl h1)
theorem RQ(h1:(a:Int)<(b:Int)):a<b:=bZ.1 (cz [(a:Int),(b:Int)] [K' B0 B1] (K' B0 B1) rfl h1)
theorem RS(h1:x<(a:Int)):x<(a:Int):=cz [x,(a:Int)] [K' B0 B1] (K' B0 B1) rfl h1
theorem RT:1+a+a<=2*a+14:=cn [a] [] (L (.a (.a (.n 1) A0) A0) (.a (.m 2 A0) (.n 14))) rfl
theorem RU(h1:a<b)(h2:c=6)(h3:b=c):a<6:=cn [a,b,c] [K A0 A1,E A2 (.n 6),E A1 A2] (K A0 (.n 6)) rfl h1 h2 h3
theorem RV(h1:a<=1522):10+a<=134217728:=cn [a] [L A0 (.n 1522)] (L (.a (.n 10) A0) (.n 134217728)) rfl h1
theorem RW(h1:b<=a):a-(a-b)=b:=by lia
theorem RX(h1:a+1=c)(h2:c<=b):a<b:=cn [a,b,c] [E (.a A0 (.n 1)) A2,L A2 A1] (K A0 A1) rfl h1 h2
theorem RY(h1:b-a=0)(h2:a<=b):a=b:=bh (cn [a,b,(b-a)] [L A0 A1] (L A0 A1) rfl h2) (cn [a,b,(b-a)] [E A2 (.n 0),F (.a A2 A0) A1] (L A1 A0) rfl h1 (bC (cn [a,b,(b-a)] [L A0 A1] (L A0 A1) rfl h2)))
theorem RZ(h1:a<=b+1):a<=b+1+1:=cn [a,b] [L A0 (.a A1 (.n 1))] (L A0 (.a (.a A1 (.n 1)) (.n 1))) rfl h1
theorem R0(h1:x<z)(h2:z<y):x+1<=y:=cz [x,y,z] [K' B0 B2,K' B2 B1] (L' (.a B0 (.n 1)) B1) rfl h1 h2
theorem R1(h1:a<=b):a+(b-a)=b:=bh (cn [a,b,(b-a)] [E (.a A2 A0) A1] (L (.a A0 A2) A1) rfl (bC (cn [a,b,(b-a)] [L A0 A1] (L A0 A1) rfl h1))) (cn [a,b,(b-a)] [F (.a A2 A0) A1] (L A1 (.a A0 A2)) rfl (bC (cn [a,b,(b-a)] [L A0 A1] (L A0 A1) rfl h1)))
theorem R2(h1:a<=2^17):(a:Int)<2^63:=cz [(a:Int)] [L' B0 (.n (2^17))] (K' B0 (.n (2^63))) rfl (bf.2 h1)
theorem R3(h1:0<=x):x=((x.toNat:Nat):Int):=bG (cz [x,(x.toNat:Int)] [F' B1 B0] (L' B0 B1) rfl (dG (cz [x,(x.toNat:Int)] [L' (.n 0) B0] (L' (.n 0) B0) rfl h1))) (cz [x,(x.toNat:Int)] [E' B1 B0] (L' B1 B0) rfl (dG (cz [x,(x.toNat:Int)] [L' (.n 0) B0] (L' (.n 0) B0) rfl h1)))
theorem R4(h1:a<b-1):1+a-1<b:=cn [a,b,((1+a)-1),(b-1)] [K A0 A3,E (.a A2 (.n 1)) (.a (.n 1) A0),L A3 A1] (K A2 A1) rfl h1 (bC (cn [a,b,((1+a)-1),(b-1)] [] (L (.n 1) (.a (.n 1) A0)) rfl)) (Nat.sub_le b 1)
theorem R5(h1:z=y+x):x+y=z:=bG (cz [x,y,z] [F' B2 (.a B1 B0)] (L' (.a B0 B1) B2) rfl h1) (cz [x,y,z] [E' B2 (.a B1 B0)] (L' B2 (.a B0 B1)) rfl h1)
theorem R6(h1:a<=c+0)(h2:c<=b):a<=b:=cn [a,b,c] [L A0 (.a A2 (.n 0)),L A2 A1] (L A0 A1) rfl h1 h2
theorem R7(h1:a+1<=b+1):a<=0+b:=cn [a,b] [L (.a A0 (.n 1)) (.a A1 (.n 1))] (L A0 (.a (.n 0) A1)) rfl h1
theorem R8(h1:x+z=y+z):x=y:=bG (cz [x,y,z] [E' (.a B0 B2) (.a B1 B2)] (L' B0 B1) rfl h1) (cz [x,y,z] [F' (.a B0 B2) (.a B1 B2)] (L' B1 B0) rfl h1)
theorem R9(h1:a+b<=c)(h2:b=c):a=0:=bh (cn [a,b,c] [L (.a A0 A1) A2,F A1 A2] (L A0 (.n 0)) rfl h1 h2) (cn [a,b,c] [] (L (.n 0) A0) rfl)
theorem R_(h1:¬(y>x)):(max x y)=x:=bG (Int.max_le.2 ⟨cz [x,y] [] (L' B0 B0) rfl,cz [x,y] [L' B1 B0] (L' B1 B0) rfl (Int.not_lt.1 h1)⟩) (cz [x,y,(max x y)] [L' B0 B2] (L' B0 B2) rfl (kj x y))
theorem Sa(h1:a<=1522):a+a<=134217728:=cn [a] [⟨0,2,A0,.n 1522⟩] (L (.a A0 A0) (.n 134217728)) rfl h1
theorem Sb:a-(b+1)=a-1-b:=by lia
theorem Sd(h1:a<=803*6):(a:Int)<=2^27:=cz [(a:Int)] [L' B0 (.m 803 (.n 6))] (L' B0 (.n (2^27))) rfl (bf.2 h1)
theorem Se(h1:0<=x)(h2:¬(x=0)):256<=255+x:=by lia
theorem Sf(h1:b=16777216)(h2:a<=900):a<=b:=cn [a,b] [F A1 (.n 16777216),L A0 (.n 900)] (L A0 A1) rfl h1 h2
theorem Sh(h1:¬(x<=y)):(max x y)=x:=bG (Int.max_le.2 ⟨cz [x,y] [] (L' B0 B0) rfl,cz [x,y] [K' B1 B0] (L' B1 B0) rfl (Int.not_le.1 h1)⟩) (cz [x,y,(max x y)] [L' B0 B2] (L' B0 B2) rfl (kj x y))
theorem Si:a+b+1<=a+(b+1):=cn [a,b] [] (L (.a (.a A0 A1) (.n 1)) (.a A0 (.a A1 (.n 1)))) rfl
theorem Sj:1+a+b<=b+a+1:=cn [a,b] [] (L (.a (.a (.n 1) A0) A1) (.a (.a A1 A0) (.n 1))) rfl
theorem Sk:a+1+b<=a+(b+1):=cn [a,b] [] (L (.a (.a A0 (.n 1)) A1) (.a A0 (.a A1 (.n 1)))) rfl
theorem Sl:a+1+b<=b+a+1:=cn [a,b] [] (L (.a (.a A0 (.n 1)) A1) (.a (.a A1 A0) (.n 1))) rfl
theorem Sm(h1:7<=x)(h2:x<=54):x.natAbs<=54:=(nb x).elim (λp0=>bf.1 (cz [x,(x.natAbs:Int)] [L' B0 (.n 54),E' B1 B0] (L' B1 (.n 54)) rfl h2 p0.2)) (λp0=>bf.1 (cz [x,(x.natAbs:Int)] [L' (.n 7) B0,E' B1 (.g B0)] (L' B1 (.n 54)) rfl h1 p0.2))
theorem Sn(h1:a<=1000):¬(0+a>16777216):=by lia
theorem So(h1:a+2*c+2<b):a<b:=cn [a,b,c] [K (.a (.a A0 (.m 2 A2)) (.n 2)) A1] (K A0 A1) rfl h1
theorem Sp(h1:b-1=a+(c+1)):a<b:=cn [a,b,c,(b-1)] [F A3 (.a A0 (.a A2 (.n 1))),L A3 A1] (K A0 A1) rfl h1 (Nat.sub_le b 1)
theorem Ss:a<=b+1*(a+11)+803:=cn [a,b] [] (L A0 (.a (.a A1 (.m 1 (.a A0 (.n 11)))) (.n 803))) rfl
theorem Su(h1:a<b):(a:Int).toNat<b:=cn [a,b] [K A0 A1] (K A0 A1) rfl h1
theorem Sv(h1:a<=270000):10+a<=134217728:=cn [a] [L A0 (.n 270000)] (L (.a (.n 10) A0) (.n 134217728)) rfl h1
theorem Sw(h1:a+b+1<=c)(h2:c<=6):a<=5:=cn [a,b,c] [L (.a (.a A0 A1) (.n 1)) A2,L A2 (.n 6)] (L A0 (.n 5)) rfl h1 h2
theorem Sx(h1:801+(a+1)<=b):a+1<=b:=cn [a,b] [L (.a (.n 801) (.a A0 (.n 1))) A1] (L (.a A0 (.n 1)) A1) rfl h1
theorem Sy(h1:b+1<=a):a-(b+1)<a:=cn [a,b,(a-(b+1))] [E (.a A2 (.a A1 (.n 1))) A0] (K A2 A0) rfl (bC (cn [a,b,(a-(b+1))] [L (.a A1 (.n 1)) A0] (L (.a A1 (.n 1)) A0) rfl h1))
theorem Sz(h1:a<(b:Int).toNat):a<b:=cn [a,b] [K A0 A1] (K A0 A1) rfl h1
theorem SA(h1:b<=100000)(h2:a<=b):a<=100000:=cn [a,b] [L A1 (.n 100000),L A0 A1] (L A0 (.n 100000)) rfl h1 h2
theorem SD(h1:0<x.natAbs):x.natAbs≠0:=by lia
theorem SE(h1:2<=b)(h2:a=b-b/2):1<=a:=by lia
theorem SG(h1:1<=b)(h2:a=b-b/2):1<=a:=by lia
theorem SH(h1:¬(a<b))(h2:¬(b<a)):a=b:=bh (cn [a,b] [L A0 A1] (L A0 A1) rfl (Nat.not_lt.1 h2)) (cn [a,b] [L A1 A0] (L A1 A0) rfl (Nat.not_lt.1 h1))
theorem SI:(1+(a:Int)-1).toNat=a:=bh (bf.1 (cz [(a:Int),((((1+(a:Int))-1)).toNat:Int)] [E' B1 (.s (.a (.n 1) B0) (.n 1))] (L' B1 B0) rfl (dG (cz [(a:Int),((((1+(a:Int))-1)).toNat:Int)] [L' (.n 0) B0] (L' (.n 0) (.s (.a (.n 1) B0) (.n 1))) rfl (bR a))))) (bf.1 (cz [(a:Int),((((1+(a:Int))-1)).toNat:Int)] [F' B1 (.s (.a (.n 1) B0) (.n 1))] (L' B0 B1) rfl (dG (cz [(a:Int),((((1+(a:Int))-1)).toNat:Int)] [L' (.n 0) B0] (L' (.n 0) (.s (.a (.n 1) B0) (.n 1))) rfl (bR a)))))
theorem SJ:(1+(a:Int)).toNat=a+1:=bh (cn [a] [] (L (.a (.n 1) A0) (.a A0 (.n 1))) rfl) (cn [a] [] (L (.a A0 (.n 1)) (.a (.n 1) A0)) rfl)
theorem SK(h1:((x.natAbs:Nat):Int)<y):x<y:=(nb x).elim (λp0=>cz [x,y,(x.natAbs:Int)] [K' B2 B1,F' B2 B0] (K' B0 B1) rfl h1 p0.2) (λp0=>cz [x,y,(x.natAbs:Int)] [K' B2 B1,⟨0,2,B0,.n 0⟩,F' B2 (.g B0)] (K' B0 B1) rfl h1 p0.1 p0.2)
theorem SM(h1:b=16777216)(h2:a<=7):a-1<=b:=cn [a,b,(a-1)] [F A1 (.n 16777216),L A0 (.n 7),L A2 A0] (L A2 A1) rfl h1 h2 (Nat.sub_le a 1)
theorem SN(h1:b=16777216)(h2:a<=6):1+a<=b:=cn [a,b] [F A1 (.n 16777216),L A0 (.n 6)] (L (.a (.n 1) A0) A1) rfl h1 h2
theorem SO(h1:a<b+1)(h2:¬(a=b)):a<b:=by lia
theorem SP:(-1)*(-(x+y))-y=x:=bG (cz [x,y] [] (L' (.s (.m (-1) (.g (.a B0 B1))) B1) B0) rfl) (cz [x,y] [] (L' B0 (.s (.m (-1) (.g (.a B0 B1))) B1)) rfl)
theorem SQ(h1:¬(b<a)):(a:Int)<=(b:Int):=cz [(a:Int),(b:Int)] [L' B0 B1] (L' B0 B1) rfl (bf.2 (Nat.not_lt.1 h1))
theorem SR(h1:¬(c<=a)):a-b<=c-b:=(sb a b).elim (λp0=>cn [a,b,c,(a-b),(c-b)] [K A0 A2,E (.a A3 A1) A0,F (.a A4 A1) A2] (L A3 A4) rfl (Nat.not_le.1 h1) p0.2 (bC (cn [a,b,c,(a-b),(c-b)] [K A0 A2,L A1 A0] (L A1 A2) rfl (Nat.not_le.1 h1) p0.1))) (λp0=>cn [a,b,c,(a-b),(c-b)] [E A3 (.n 0)] (L A3 A4) rfl p0.2)
theorem SS(h1:a<=b):801+(a+1)<=b+803:=cn [a,b] [L A0 A1] (L (.a (.n 801) (.a A0 (.n 1))) (.a A1 (.n 803))) rfl h1
theorem SV(h1:a<c)(h2:b=d)(h3:c=d):a<b:=cn [a,b,c,d] [K A0 A2,F A1 A3,E A2 A3] (K A0 A1) rfl h1 h2 h3
theorem SW(h1:b-(b-a)=0)(h2:a<=b):a=0:=bh (cn [a,b,(b-(b-a)),(b-a)] [E A2 (.n 0),L A1 (.a A2 A3),E (.a A3 A0) A1] (L A0 (.n 0)) rfl h1 (JX b (b-a)) (bC (cn [a,b,(b-(b-a)),(b-a)] [L A0 A1] (L A0 A1) rfl h2))) (cn [a,b,(b-(b-a)),(b-a)] [] (L (.n 0) A0) rfl)
theorem SX(h1:0=b-(b-a))(h2:a<=b):a=0:=bh (cn [a,b,(b-(b-a)),(b-a)] [F (.n 0) A2,L A1 (.a A2 A3),E (.a A3 A0) A1] (L A0 (.n 0)) rfl h1 (JX b (b-a)) (bC (cn [a,b,(b-(b-a)),(b-a)] [L A0 A1] (L A0 A1) rfl h2))) (cn [a,b,(b-(b-a)),(b-a)] [] (L (.n 0) A0) rfl)
theorem SY(h1:a+1<=b):(a:Int)<(b:Int):=cz [(a:Int),(b:Int)] [L' (.a B0 (.n 1)) B1] (K' B0 B1) rfl (bf.2 h1)
theorem S1(h1:a<=b+c-1):a<=b+c:=cn [a,b,c,((b+c)-1)] [L A0 A3,L A3 (.a A1 A2)] (L A0 (.a A1 A2)) rfl h1 (Nat.sub_le (b+c) 1)
theorem S5(h1:a=4)(h2:x<=3):(x-1).toNat<a:=by omega
theorem S6:(-1)=(a:Int)-((a+1:Nat):Int):=bG (cz [(a:Int)] [] (L' (.g (.n 1)) (.s B0 (.a B0 (.n 1)))) rfl) (cz [(a:Int)] [] (L' (.s B0 (.a B0 (.n 1))) (.g (.n 1))) rfl)
theorem S7(h1:c+1=b+1)(h2:a<c):a<b:=cn [a,b,c] [E (.a A2 (.n 1)) (.a A1 (.n 1)),K A0 A2] (K A0 A1) rfl h1 h2
theorem S8(h1:0<=x):0+((x.toNat:Nat):Int)=x:=bG (cz [x,(x.toNat:Int)] [E' B1 B0] (L' (.a (.n 0) B1) B0) rfl (dG (cz [x,(x.toNat:Int)] [L' (.n 0) B0] (L' (.n 0) B0) rfl h1))) (cz [x,(x.toNat:Int)] [F' B1 B0] (L' B0 (.a (.n 0) B1)) rfl (dG (cz [x,(x.toNat:Int)] [L' (.n 0) B0] (L' (.n 0) B0) rfl h1)))
theorem S9(h1:a<b):0<=a/\a<0+(b+1):=⟨cn [a,b] [] (L (.n 0) A0) rfl,cn [a,b] [K A0 A1] (K A0 (.a (.n 0) (.a A1 (.n 1)))) rfl h1⟩
theorem S_(h1:(a=40\/a=41)):a≠34/\a≠92:=by lia
theorem Tc(h1:a<=1522):1+a+a<=134217728:=cn [a] [⟨0,2,A0,.n 1522⟩] (L (.a (.a (.n 1) A0) A0) (.n 134217728)) rfl h1
theorem Td(h1:b=a)(h2:b<=4000):a+a<=10000:=cn [a,b] [⟨2,(-2),A1,A0⟩,⟨0,2,A1,.n 4000⟩] (L (.a A0 A0) (.n 10000)) rfl h1 h2
theorem Tf:a+b+c=a+(b+c):=bh (cn [a,b,c] [] (L (.a (.a A0 A1) A2) (.a A0 (.a A1 A2))) rfl) (cn [a,b,c] [] (L (.a A0 (.a A1 A2)) (.a (.a A0 A1) A2)) rfl)
theorem Tg(h1:1<=b)(h2:a=b/2)(h3:¬(b=1)):1<=a:=by lia
theorem Th:a+1+b<=a+b*1+1:=cn [a,b] [] (L (.a (.a A0 (.n 1)) A1) (.a (.a A0 (.w A1 1)) (.n 1))) rfl
theorem Ti(h1:x<700):(40+x).toNat+1<=800:=by lia
theorem Tj(h1:0<=y)(h2:x=0)(h3:¬(y=0)):0<x+y:=by lia
theorem Tn:a+(b+c)=a+c+b:=bh (cn [a,b,c] [] (L (.a A0 (.a A1 A2)) (.a (.a A0 A2) A1)) rfl) (cn [a,b,c] [] (L (.a (.a A0 A2) A1) (.a A0 (.a A1 A2))) rfl)
theorem To:x+y+z=y+(x+z):=bG (cz [x,y,z] [] (L' (.a (.a B0 B1) B2) (.a B1 (.a B0 B2))) rfl) (cz [x,y,z] [] (L' (.a B1 (.a B0 B2)) (.a (.a B0 B1) B2)) rfl)
theorem Tp:1+a+1-1=1+a-1+1:=bh (cn [a,(((1+a)+1)-1),((1+a)-1)] [E (.a A1 (.n 1)) (.a (.a (.n 1) A0) (.n 1)),F (.a A2 (.n 1)) (.a (.n 1) A0)] (L A1 (.a A2 (.n 1))) rfl (bC (cn [a,(((1+a)+1)-1),((1+a)-1)] [] (L (.n 1) (.a (.a (.n 1) A0) (.n 1))) rfl)) (bC (cn [a,(((1+a)+1)-1),((1+a)-1)] [] (L (.n 1) (.a (.n 1) A0)) rfl))) (cn [a,((1+a)-1),(((1+a)+1)-1)] [E (.a A1 (.n 1)) (.a (.n 1) A0),F (.a A2 (.n 1)) (.a (.a (.n 1) A0) (.n 1))] (L (.a A1 (.n 1)) A2) rfl (bC (cn [a,((1+a)-1),(((1+a)+1)-1)] [] (L (.n 1) (.a (.n 1) A0)) rfl)) (bC (cn [a,((1+a)-1),(((1+a)+1)-1)] [] (L (.n 1) (.a (.a (.n 1) A0) (.n 1))) rfl)))
theorem Tq:x+y=x+z+(y-z):=bG (cz [x,y,z] [] (L' (.a B0 B1) (.a (.a B0 B2) (.s B1 B2))) rfl) (cz [x,y,z] [] (L' (.a (.a B0 B2) (.s B1 B2)) (.a B0 B1)) rfl)
theorem Tr(h1:7<=x)(h2:x<=54):x.natAbs<2^10:=(nb x).elim (λp0=>bZ.1 (cz [x,(x.natAbs:Int)] [L' B0 (.n 54),E' B1 B0] (K' B1 (.n (2^10))) rfl h2 p0.2)) (λp0=>bZ.1 (cz [x,(x.natAbs:Int)] [L' (.n 7) B0,E' B1 (.g B0)] (K' B1 (.n (2^10))) rfl h1 p0.2))
theorem Tu(h1:b=16777216)(h2:a<=b):a<=16777216:=cn [a,b] [E A1 (.n 16777216),L A0 A1] (L A0 (.n 16777216)) rfl h1 h2
theorem Tv(h1:b=16777216)(h2:a<=16777216):a<=b:=cn [a,b] [F A1 (.n 16777216),L A0 (.n 16777216)] (L A0 A1) rfl h1 h2
theorem Tw(h1:a<b)(h2:b=c):a<(min b c):=(ZA b c).elim (λp0=>cn [a,b,c,(min b c)] [K A0 A1,E A1 A2,F A3 A2] (K A0 A3) rfl h1 h2 p0.2) (λp0=>cn [a,b,c,(min b c)] [K A0 A1,F A3 A1] (K A0 A3) rfl h1 p0.2)
theorem Tz(h1:1<=x)(h2:x<=1000):0<=x/\x<=2^40:=⟨cz [x] [L' (.n 1) B0] (L' (.n 0) B0) rfl h1,cz [x] [L' B0 (.n 1000)] (L' B0 (.n (2^40))) rfl h2⟩
theorem TA:((-1)+((a:Int)+1)).toNat=a:=bh (bf.1 (cz [(a:Int),((((-1)+((a:Int)+1))).toNat:Int)] [E' B1 (.a (.g (.n 1)) (.a B0 (.n 1)))] (L' B1 B0) rfl (dG (cz [(a:Int),((((-1)+((a:Int)+1))).toNat:Int)] [L' (.n 0) B0] (L' (.n 0) (.a (.g (.n 1)) (.a B0 (.n 1)))) rfl (bR a))))) (bf.1 (cz [(a:Int),((((-1)+((a:Int)+1))).toNat:Int)] [F' B1 (.a (.g (.n 1)) (.a B0 (.n 1)))] (L' B0 B1) rfl (dG (cz [(a:Int),((((-1)+((a:Int)+1))).toNat:Int)] [L' (.n 0) B0] (L' (.n 0) (.a (.g (.n 1)) (.a B0 (.n 1)))) rfl (bR a)))))
theorem TF(h1:(a:Int)+1<=x):a<x.toNat:=bZ.1 (cz [(a:Int),x,(x.toNat:Int)] [L' (.a B0 (.n 1)) B1,F' B2 B1] (K' B0 B2) rfl h1 (dG (cz [(a:Int),x,(x.toNat:Int)] [L' (.a B0 (.n 1)) B1,L' (.n 0) B0] (L' (.n 0) B1) rfl h1 (bR a))))
theorem TG(h1:a<=1522):10+a+a<=134217728:=cn [a] [⟨0,2,A0,.n 1522⟩] (L (.a (.a (.n 10) A0) A0) (.n 134217728)) rfl h1
theorem TH(h1:a<((b:Int)-1).toNat):a<b:=(tn ((b:Int)-1)).elim (λp0=>bZ.1 (cz [(a:Int),(b:Int),((((b:Int)-1)).toNat:Int)] [K' B0 B2,E' B2 (.s B1 (.n 1))] (K' B0 B1) rfl (bZ.2 h1) p0.2)) (λp0=>cn [a,b,(((b:Int)-1)).toNat] [K A0 A2,E A2 (.n 0)] (K A0 A1) rfl h1 p0.2)
theorem TJ(h1:a=b+c):a<=b+c+d:=cn [a,b,c,d] [E A0 (.a A1 A2)] (L A0 (.a (.a A1 A2) A3)) rfl h1
theorem TL(h1:c+d<=b)(h2:a=d/2):a<=b:=cn [a,b,c,d,(d/2)] [L (.a A2 A3) A1,E A0 A4,L (.m 2 A4) A3] (L A0 A1) rfl h1 h2 (Nat.mul_div_le d 2)
theorem TM(h1:a<7)(h2:b=7):(a:Int).toNat<b:=cn [a,b] [K A0 (.n 7),F A1 (.n 7)] (K A0 A1) rfl h1 h2
theorem TN(h1:x<700):((2:Nat):Int)*(40+x)<=2^27:=by lia
theorem TQ(h1:0<=x)(h2:x<3):1<=1+x/\1+x<=3:=⟨cz [x] [L' (.n 0) B0] (L' (.n 1) (.a (.n 1) B0)) rfl h1,cz [x] [K' B0 (.n 3)] (L' (.a (.n 1) B0) (.n 3)) rfl h2⟩
theorem TR(h1:1<=x)(h2:x<=3):x=1\/(x=2\/x=3):=by lia
theorem TU(h1:a<=b)(h2:a<=c):a<=(min b c):=(ZA b c).elim (λp0=>cn [a,b,c,(min b c)] [L A0 A2,F A3 A2] (L A0 A3) rfl h2 p0.2) (λp0=>cn [a,b,c,(min b c)] [L A0 A1,F A3 A1] (L A0 A3) rfl h1 p0.2)
theorem TV(h1:a<b):0<(min (a+1) b)-a:=by lia
theorem TX(h1:a<b):(min (a+1) b)-a=1:=by lia
theorem TY(h1:a<=16777216):¬(a>(2^63-1)/8):=by lia
theorem TZ(h1:c<6)(h2:b=16777216)(h3:a=c):a<b:=cn [a,b,c] [K A2 (.n 6),F A1 (.n 16777216),E A0 A2] (K A0 A1) rfl h1 h2 h3
theorem T3(h1:¬((b:Int)<(a:Int))):a-b=0:=bh (cn [a,b,(a-b)] [E A2 (.n 0)] (L A2 (.n 0)) rfl (Nat.sub_eq_zero_of_le (bf.1 (cz [(a:Int),(b:Int),((a-b):Int)] [L' B0 B1] (L' B0 B1) rfl (Int.not_lt.1 h1))))) (cn [a,b,(a-b)] [] (L (.n 0) A2) rfl)
theorem T4(h1:a=b)(h2:x<(b:Int)):x<(a:Int):=cz [x,(a:Int),(b:Int)] [F' B1 B2,K' B0 B2] (K' B0 B1) rfl (cD.2 h1) h2
theorem T5(h1:1<=x)(h2:x<=4):x.natAbs<1073741824:=(nb x).elim (λp0=>bZ.1 (cz [x,(x.natAbs:Int)] [L' B0 (.n 4),E' B1 B0] (K' B1 (.n 1073741824)) rfl h2 p0.2)) (λp0=>bZ.1 (cz [x,(x.natAbs:Int)] [L' (.n 1) B0,E' B1 (.g B0)] (K' B1 (.n 1073741824)) rfl h1 p0.2))
theorem T6(h1:a<=1000):a*4+a*0<=16777216:=cn [a] [⟨0,4,A0,.n 1000⟩] (L (.a (.w A0 4) (.w A0 0)) (.n 16777216)) rfl h1
theorem T7(h1:0<=x)(h2:x<(a:Int)):x.toNat<a:=bZ.1 (cz [x,(a:Int),(x.toNat:Int)] [K' B0 B1,E' B2 B0] (K' B2 B1) rfl h2 (dG (cz [x,(a:Int),(x.toNat:Int)] [L' (.n 0) B0] (L' (.n 0) B0) rfl h1)))
theorem T8(h1:(a:Int)+1+(b:Int)<=x):0<=x:=cz [x,(a:Int),(b:Int)] [L' (.a (.a B1 (.n 1)) B2) B0,L' (.n 0) B1,L' (.n 0) B2] (L' (.n 0) B0) rfl h1 (bR a) (bR b)
theorem T9(h1:a<c)(h2:b=c):(a:Int)<(b:Int):=cz [(a:Int),(b:Int),(c:Int)] [K' B0 B2,F' B1 B2] (K' B0 B1) rfl (bZ.2 h1) (cD.2 h2)
theorem T_(h1:b=a+(c+1))(h2:b<=1000):a<=1000:=cn [a,b,c] [F A1 (.a A0 (.a A2 (.n 1))),L A1 (.n 1000)] (L A0 (.n 1000)) rfl h1 h2
theorem Ua(h1:b=a+c)(h2:b<=200000):a<=200000:=cn [a,b,c] [F A1 (.a A0 A2),L A1 (.n 200000)] (L A0 (.n 200000)) rfl h1 h2
theorem Ub(h1:b=c+a)(h2:b<=200000):a<=200000:=cn [a,b,c] [F A1 (.a A2 A0),L A1 (.n 200000)] (L A0 (.n 200000)) rfl h1 h2
theorem Uc(h1:a+b=c+1):a+b<=c+1:=cn [a,b,c] [E (.a A0 A1) (.a A2 (.n 1))] (L (.a A0 A1) (.a A2 (.n 1))) rfl h1
theorem Ud(h1:a+1+b<=c+1):a+b<=c:=cn [a,b,c] [L (.a (.a A0 (.n 1)) A1) (.a A2 (.n 1))] (L (.a A0 A1) A2) rfl h1
theorem Ue(h1:a+b<=c):a+(b+1)<=c+1:=cn [a,b,c] [L (.a A0 A1) A2] (L (.a A0 (.a A1 (.n 1))) (.a A2 (.n 1))) rfl h1
theorem Ug(h1:a+b+1<=c+1):a+b<=c:=cn [a,b,c] [L (.a (.a A0 A1) (.n 1)) (.a A2 (.n 1))] (L (.a A0 A1) A2) rfl h1
theorem Uh(h1:a<b+(c+1)):a<b+1+c:=cn [a,b,c] [K A0 (.a A1 (.a A2 (.n 1)))] (K A0 (.a (.a A1 (.n 1)) A2)) rfl h1
theorem Ui(h1:z=u+x)(h2:z=u+y):x=y:=bG (cz [x,y,z,u] [F' B2 (.a B3 B0),E' B2 (.a B3 B1)] (L' B0 B1) rfl h1 h2) (cz [x,y,z,u] [E' B2 (.a B3 B0),F' B2 (.a B3 B1)] (L' B1 B0) rfl h1 h2)
theorem Uj(h1:0<=z)(h2:u<y)(h3:u=x+z):x<y:=cz [x,y,z,u] [L' (.n 0) B2,K' B3 B1,F' B3 (.a B0 B2)] (K' B0 B1) rfl h1 h2 h3
theorem Uk(h1:a-b=c+1):a-(b+1)=c:=congrArg (·-1) h1
theorem Ul(h1:a<=b+(c+1)):a<=b+1+c:=cn [a,b,c] [L A0 (.a A1 (.a A2 (.n 1)))] (L A0 (.a (.a A1 (.n 1)) A2)) rfl h1
theorem Um(h1:a+(b+1)<=c):a+1+b<=c:=cn [a,b,c] [L (.a A0 (.a A1 (.n 1))) A2] (L (.a (.a A0 (.n 1)) A1) A2) rfl h1
theorem Un(h1:b=16777216)(h2:a=c)(h3:c<=63):a<=b:=cn [a,b,c] [F A1 (.n 16777216),E A0 A2,L A2 (.n 63)] (L A0 A1) rfl h1 h2 h3
theorem Uo(h1:a+20*c+40<b):a+40<b:=cn [a,b,c] [K (.a (.a A0 (.m 20 A2)) (.n 40)) A1] (K (.a A0 (.n 40)) A1) rfl h1
theorem Up(h1:a<7):5000+(803*a+1)<=134217728:=by lia
theorem Uq(h1:b=1)(h2:c<=900)(h3:a<=c):a+b<=1000:=cn [a,b,c] [E A1 (.n 1),L A2 (.n 900),L A0 A2] (L (.a A0 A1) (.n 1000)) rfl h1 h2 h3
theorem Ur:a+b+c<=a+1+b+c:=cn [a,b,c] [] (L (.a (.a A0 A1) A2) (.a (.a (.a A0 (.n 1)) A1) A2)) rfl
theorem Us:a+b+c<=a+b+c+1:=cn [a,b,c] [] (L (.a (.a A0 A1) A2) (.a (.a (.a A0 A1) A2) (.n 1))) rfl
theorem Ut(h1:b<=39*a):25*a+b<=64*a:=cn [a,b] [L A1 (.m 39 A0)] (L (.a (.m 25 A0) A1) (.m 64 A0)) rfl h1
theorem Uu(h1:¬(a<b)):(min (a+1) b)-a=0:=(sb (min (a+1) b) a).elim (λp0=>bh (cn [a,b,((min (a+1) b)-a),(min (a+1) b)] [L A1 A0,E (.a A2 A0) A3,L A3 A1] (L A2 (.n 0)) rfl (Nat.not_lt.1 h1) p0.2 (Nat.min_le_right (a+1) b)) (cn [a,b,((min (a+1) b)-a),(min (a+1) b)] [] (L (.n 0) A2) rfl)) (λp0=>bh (cn [a,b,((min (a+1) b)-a),(min (a+1) b)] [E A2 (.n 0)] (L A2 (.n 0)) rfl p0.2) (cn [a,b,((min (a+1) b)-a),(min (a+1) b)] [] (L (.n 0) A2) rfl))
theorem Uv:a+b+0+c=a+(b+c):=bh (cn [a,b,c] [] (L (.a (.a (.a A0 A1) (.n 0)) A2) (.a A0 (.a A1 A2))) rfl) (cn [a,b,c] [] (L (.a A0 (.a A1 A2)) (.a (.a (.a A0 A1) (.n 0)) A2)) rfl)
theorem Uw(h1:a=b):((a:Int)-1).toNat=b-1:=h1▸Int.toNat_sub a 1
theorem Ux:a+1+b<=a+1*(b+11)+1:=cn [a,b] [] (L (.a (.a A0 (.n 1)) A1) (.a (.a A0 (.m 1 (.a A1 (.n 11)))) (.n 1))) rfl
theorem Uy(h1:x.toNat=b)(h2:b<a):x<(a:Int):=cz [x,(a:Int),(b:Int),(x.toNat:Int)] [E' B3 B2,K' B2 B1,L' B0 B3] (K' B0 B1) rfl (cD.2 h1) (bZ.2 h2) (Int.self_le_toNat x)
theorem Uz(h1:b=a+(c+1))(h2:d=6)(h3:b=d):a<=6:=cn [a,b,c,d] [F A1 (.a A0 (.a A2 (.n 1))),E A3 (.n 6),E A1 A3] (L A0 (.n 6)) rfl h1 h2 h3
theorem UA(h1:a<c)(h2:c=b):(a:Int).toNat<b:=cn [a,b,c] [K A0 A2,E A2 A1] (K A0 A1) rfl h1 h2
theorem UB(h1:a=2)(h2:c=5)(h3:b<=10):a+b+c<=20:=cn [a,b,c] [E A0 (.n 2),E A2 (.n 5),L A1 (.n 10)] (L (.a (.a A0 A1) A2) (.n 20)) rfl h1 h2 h3
theorem UC(h1:b=16777216)(h2:c<=1001)(h3:a<=c):a<b:=cn [a,b,c] [F A1 (.n 16777216),L A2 (.n 1001),L A0 A2] (K A0 A1) rfl h1 h2 h3
theorem UD(h1:b<=c+1)(h2:c<=1000)(h3:a<=b):a<=1002:=cn [a,b,c] [L A1 (.a A2 (.n 1)),L A2 (.n 1000),L A0 A1] (L A0 (.n 1002)) rfl h1 h2 h3
theorem UE(h1:b=16777216)(h2:c<=1000)(h3:a<=c):a<b:=cn [a,b,c] [F A1 (.n 16777216),L A2 (.n 1000),L A0 A2] (K A0 A1) rfl h1 h2 h3
theorem UG(h1:a<=c):a+((min b c)-a)<=c:=(sb (min b c) a).elim (λp0=>cn [a,b,c,((min b c)-a),(min b c)] [E (.a A3 A0) A4,L A4 A2] (L (.a A0 A3) A2) rfl p0.2 (Nat.min_le_right b c)) (λp0=>cn [a,b,c,((min b c)-a),(min b c)] [L A0 A2,E A3 (.n 0)] (L (.a A0 A3) A2) rfl h1 p0.2)
theorem UH(h1:b=1)(h2:c=16777216)(h3:a<=3):a+b<=c:=cn [a,b,c] [E A1 (.n 1),F A2 (.n 16777216),L A0 (.n 3)] (L (.a A0 A1) A2) rfl h1 h2 h3
theorem UI(h1:1<=x)(h2:x<=1000):x.natAbs<1073741824:=by omega
theorem UJ:(a:Int)+1+((0:Nat):Int)<=(a:Int)+1:=cz [(a:Int)] [] (L' (.a (.a B0 (.n 1)) (.n 0)) (.a B0 (.n 1))) rfl
theorem UK(h1:a<=1002):a*1000+a*0<=16777216:=by lia
theorem UL(h1:x<0):((-x)-1).natAbs<=x.natAbs:=(nb x).elim (λp0=>(Int.lt_irrefl 0 (cz [x,(x.natAbs:Int)] [K' B0 (.n 0),L' (.n 0) B0] (K' (.n 0) (.n 0)) rfl h1 p0.1)).elim) (λp0=>(nb ((-x)-1)).elim (λp1=>bf.1 (cz [x,((((-x)-1)).natAbs:Int),(x.natAbs:Int)] [F' B2 (.g B0),E' B1 (.s (.g B0) (.n 1))] (L' B1 B2) rfl p0.2 p1.2)) (λp1=>bf.1 (cz [x,((((-x)-1)).natAbs:Int),(x.natAbs:Int)] [⟨1,2,B0,.n 0⟩,F' B2 (.g B0),E' B1 (.g (.s (.g B0) (.n 1)))] (L' B1 B2) rfl h1 p0.2 p1.2)))
theorem UM(h1:c<6)(h2:a=c+1)(h3:b=16777216):a<b:=cn [a,b,c] [K A2 (.n 6),E A0 (.a A2 (.n 1)),F A1 (.n 16777216)] (K A0 A1) rfl h1 h2 h3
theorem UN(h1:c<5)(h2:a=c+1)(h3:b=16777216):a<b:=cn [a,b,c] [K A2 (.n 5),E A0 (.a A2 (.n 1)),F A1 (.n 16777216)] (K A0 A1) rfl h1 h2 h3
theorem UO(h1:c<5)(h2:b=16777216)(h3:a<=c):a+1<=b:=cn [a,b,c] [K A2 (.n 5),F A1 (.n 16777216),L A0 A2] (L (.a A0 (.n 1)) A1) rfl h1 h2 h3
theorem UP(h1:a+1<=b+1)(h2:¬(a=b)):a+1<=b:=by lia
theorem UQ(h1:x.natAbs<b)(h2:b<=a):x<(a:Int):=Int.lt_of_le_of_lt Int.le_natAbs (bZ.2 (Nat.lt_of_lt_of_le h1 h2))
theorem UR(h1:2^40<=x)(h2:y.natAbs<=24):0<x-y:=(nb y).elim (λp0=>cz [x,y,(y.natAbs:Int)] [L' (.n (2^40)) B0,L' B2 (.n 24),F' B2 B1] (K' (.n 0) (.s B0 B1)) rfl h1 (bf.2 h2) p0.2) (λp0=>cz [x,y,(y.natAbs:Int)] [L' (.n (2^40)) B0,L' B1 (.n 0)] (K' (.n 0) (.s B0 B1)) rfl h1 p0.1)
theorem US:(a:Int)+(b:Int)=((a+b:Nat):Int):=bG (cz [(a:Int),(b:Int)] [] (L' (.a B0 B1) (.a B0 B1)) rfl) (cz [(a:Int),(b:Int)] [] (L' (.a B0 B1) (.a B0 B1)) rfl)
theorem UT(h1:x=z)(h2:u=y)(h3:x<=u)(h4:y<=z):x=y:=bG (cz [x,y,z,u] [E' B3 B1,L' B0 B3] (L' B0 B1) rfl h2 h3) (cz [x,y,z,u] [F' B0 B2,L' B1 B2] (L' B1 B0) rfl h1 h4)
theorem UU(h1:c<=b+1)(h2:a<=c):a+1<=b+1+1:=cn [a,b,c] [L A2 (.a A1 (.n 1)),L A0 A2] (L (.a A0 (.n 1)) (.a (.a A1 (.n 1)) (.n 1))) rfl h1 h2
theorem UW(h1:x.toNat<b)(h2:b<=a):x.toNat<a:=by lia
theorem UX(h1:a+1<=1400000):800+(a+1)<=134217728:=cn [a] [L (.a A0 (.n 1)) (.n 1400000)] (L (.a (.n 800) (.a A0 (.n 1))) (.n 134217728)) rfl h1
theorem UY(h1:a+b+1<=c)(h2:c-1-b=0):a=0:=bh (cn [a,b,c,((c-1)-b),(c-1)] [L (.a (.a A0 A1) (.n 1)) A2,E A3 (.n 0),L A4 (.a A3 A1),F (.a A4 (.n 1)) A2] (L A0 (.n 0)) rfl h1 h2 (JX (c-1) b) (bC (cn [a,b,c,((c-1)-b),(c-1)] [L (.a (.a A0 A1) (.n 1)) A2] (L (.n 1) A2) rfl h1))) (cn [a,b,c,((c-1)-b),(c-1)] [] (L (.n 0) A0) rfl)
theorem UZ(h1:a-1-b=c+1):a-2-b=c:=(Nat.sub_right_comm (a-1) 1 b).trans (congrArg (·-1) h1)
theorem U0(h1:c=16777216)(h2:a=2)(h3:b<=10):a+b<=c:=cn [a,b,c] [F A2 (.n 16777216),E A0 (.n 2),L A1 (.n 10)] (L (.a A0 A1) A2) rfl h1 h2 h3
theorem U1(h1:a<=30*(b-1)+20):a<=30*b+20:=cn [a,b,(b-1)] [L A0 (.a (.m 30 A2) (.n 20)),⟨0,30,A2,A1⟩] (L A0 (.a (.m 30 A1) (.n 20))) rfl h1 (Nat.sub_le b 1)
theorem aaj(h1:a+1<=b)(h2:b-(b-(a+1))=1):a=0:=bh (cn [a,b,(b-(b-(a+1))),(b-(a+1))] [E A2 (.n 1),L A1 (.a A2 A3),E (.a A3 (.a A0 (.n 1))) A1] (L A0 (.n 0)) rfl h2 (JX b (b-(a+1))) (bC (cn [a,b,(b-(b-(a+1))),(b-(a+1))] [L (.a A0 (.n 1)) A1] (L (.a A0 (.n 1)) A1) rfl h1))) (cn [a,b,(b-(b-(a+1))),(b-(a+1))] [] (L (.n 0) A0) rfl)
theorem aak(h1:a+1<=c)(h2:c-(c-a)=b):a=b:=by lia
theorem U3(h1:b+1<=a):a-(b+1)+1=a-b:=bh (cn [a,b,(a-(b+1)),(a-b)] [E (.a A2 (.a A1 (.n 1))) A0,F (.a A3 A1) A0] (L (.a A2 (.n 1)) A3) rfl (bC (cn [a,b,(a-(b+1)),(a-b)] [L (.a A1 (.n 1)) A0] (L (.a A1 (.n 1)) A0) rfl h1)) (bC (cn [a,b,(a-(b+1)),(a-b)] [L (.a A1 (.n 1)) A0] (L A1 A0) rfl h1))) (cn [a,b,(a-b),(a-(b+1))] [E (.a A2 A1) A0,F (.a A3 (.a A1 (.n 1))) A0] (L A2 (.a A3 (.n 1))) rfl (bC (cn [a,b,(a-b),(a-(b+1))] [L (.a A1 (.n 1)) A0] (L A1 A0) rfl h1)) (bC (cn [a,b,(a-b),(a-(b+1))] [L (.a A1 (.n 1)) A0] (L (.a A1 (.n 1)) A0) rfl h1)))
theorem U4(h1:b=a+(c+1))(h2:b<=100000):a<=100001:=cn [a,b,c] [F A1 (.a A0 (.a A2 (.n 1))),L A1 (.n 100000)] (L A0 (.n 100001)) rfl h1 h2
theorem U5(h1:x+1*u<=z)(h2:y<u):x+y<z:=cz [x,y,z,u] [L' (.a B0 (.m 1 B3)) B2,K' B1 B3] (K' (.a B0 B1) B2) rfl h1 h2
theorem U6(h1:b=16777216)(h2:a=c)(h3:c<=100001):a<b:=cn [a,b,c] [F A1 (.n 16777216),E A0 A2,L A2 (.n 100001)] (K A0 A1) rfl h1 h2 h3
theorem U7(h1:c+d<=b)(h2:a=d-d/2):a<=b:=cn [a,b,c,d,(d-(d/2)),(d/2)] [L (.a A2 A3) A1,E A0 A4,L A4 A3] (L A0 A1) rfl h1 h2 (Nat.sub_le d (d/2))
theorem U8(h1:a<=4*c)(h2:b<=3):a+b<=4*c+3:=cn [a,b,c] [L A0 (.m 4 A2),L A1 (.n 3)] (L (.a A0 A1) (.a (.m 4 A2) (.n 3))) rfl h1 h2
theorem U9(h1:b+1<=a):a-b=a-b-1+1:=(bC (Nat.sub_pos_of_lt h1)).symm
theorem U_(h1:0<=x):(40+x).toNat=40+x.toNat:=bh (bf.1 (cz [x,(((40+x)).toNat:Int),(x.toNat:Int)] [E' B1 (.a (.n 40) B0),F' B2 B0] (L' B1 (.a (.n 40) B2)) rfl (dG (cz [x,(((40+x)).toNat:Int),(x.toNat:Int)] [L' (.n 0) B0] (L' (.n 0) (.a (.n 40) B0)) rfl h1)) (dG (cz [x,(((40+x)).toNat:Int),(x.toNat:Int)] [L' (.n 0) B0] (L' (.n 0) B0) rfl h1)))) (bf.1 (cz [x,(x.toNat:Int),(((40+x)).toNat:Int)] [E' B1 B0,F' B2 (.a (.n 40) B0)] (L' (.a (.n 40) B1) B2) rfl (dG (cz [x,(x.toNat:Int),(((40+x)).toNat:Int)] [L' (.n 0) B0] (L' (.n 0) B0) rfl h1)) (dG (cz [x,(x.toNat:Int),(((40+x)).toNat:Int)] [L' (.n 0) B0] (L' (.n 0) (.a (.n 40) B0)) rfl h1))))
theorem Va(h1:0<c)(h2:b=a+c):(a:Int)<(b:Int):=cz [(a:Int),(b:Int),(c:Int)] [K' (.n 0) B2,F' B1 (.a B0 B2)] (K' B0 B1) rfl (bZ.2 h1) (cD.2 h2)
theorem Vb(h1:b=16777216)(h2:a<=b):¬((a:Int)≥2^63):=by lia
theorem aal:a-(min b a)<=a-(min b a):=cn [a,b,(a-(min b a)),(min b a)] [] (L A2 A2) rfl
theorem Vc:a+b+1+c<=a+1+b+c:=cn [a,b,c] [] (L (.a (.a (.a A0 A1) (.n 1)) A2) (.a (.a (.a A0 (.n 1)) A1) A2)) rfl
theorem Vd:a+b+1+c<=a+b+c+1:=cn [a,b,c] [] (L (.a (.a (.a A0 A1) (.n 1)) A2) (.a (.a (.a A0 A1) A2) (.n 1))) rfl
theorem Ve:a+b+c+1=a+b+1+c:=bh (cn [a,b,c] [] (L (.a (.a (.a A0 A1) A2) (.n 1)) (.a (.a (.a A0 A1) (.n 1)) A2)) rfl) (cn [a,b,c] [] (L (.a (.a (.a A0 A1) (.n 1)) A2) (.a (.a (.a A0 A1) A2) (.n 1))) rfl)
theorem Vf:a+(b+c)+1=a+b+1+c:=bh (cn [a,b,c] [] (L (.a (.a A0 (.a A1 A2)) (.n 1)) (.a (.a (.a A0 A1) (.n 1)) A2)) rfl) (cn [a,b,c] [] (L (.a (.a (.a A0 A1) (.n 1)) A2) (.a (.a A0 (.a A1 A2)) (.n 1))) rfl)
theorem Vg(h1:(-(b:Int))<=x)(h2:a=b):(-(a:Int))<=x:=cz [(a:Int),x,(b:Int)] [L' (.g B2) B1,F' B0 B2] (L' (.g B0) B1) rfl h1 (cD.2 h2)
theorem Vh(h1:c=d+1+e)(h2:a<=d)(h3:c<=b):a<=b:=cn [a,b,c,d,e] [F A2 (.a (.a A3 (.n 1)) A4),L A0 A3,L A2 A1] (L A0 A1) rfl h1 h2 h3
theorem Vi(h1:a<((c:Int)-1).toNat)(h2:c=b):a<b:=(tn ((c:Int)-1)).elim (λp0=>bZ.1 (cz [(a:Int),(b:Int),(c:Int),((((c:Int)-1)).toNat:Int)] [K' B0 B3,E' B2 B1,E' B3 (.s B2 (.n 1))] (K' B0 B1) rfl (bZ.2 h1) (cD.2 h2) p0.2)) (λp0=>cn [a,b,c,(((c:Int)-1)).toNat] [K A0 A3,E A3 (.n 0)] (K A0 A1) rfl h1 p0.2)
theorem Vj(h1:a=c+1)(h2:b=16777216)(h3:c<=1000):a<b:=cn [a,b,c] [E A0 (.a A2 (.n 1)),F A1 (.n 16777216),L A2 (.n 1000)] (K A0 A1) rfl h1 h2 h3
theorem Vk(h1:b<=c+1)(h2:c<=1000)(h3:a<=b):a+1<=1002:=cn [a,b,c] [L A1 (.a A2 (.n 1)),L A2 (.n 1000),L A0 A1] (L (.a A0 (.n 1)) (.n 1002)) rfl h1 h2 h3
theorem Vl(h1:b+1=c)(h2:b=a+(d+1))(h3:c=6):a<6:=cn [a,b,c,d] [E (.a A1 (.n 1)) A2,F A1 (.a A0 (.a A3 (.n 1))),E A2 (.n 6)] (K A0 (.n 6)) rfl h1 h2 h3
theorem Vm(h1:c=16777216)(h2:a<=200)(h3:b<=200):a+b<=c:=cn [a,b,c] [F A2 (.n 16777216),L A0 (.n 200),L A1 (.n 200)] (L (.a A0 A1) A2) rfl h1 h2 h3
theorem Vn(h1:b<=a)(h2:¬(b=a)):a-(b+1)<a-b:=Nat.pred_lt (Nat.sub_ne_zero_of_lt (Nat.lt_of_le_of_ne h1 h2))
theorem Vo(h1:¬(a+b=0)):a+b=a+b-1+1:=(bC (Nat.pos_of_ne_zero h1)).symm
theorem Vp(h1:a+c=b)(h2:0<c):¬((a:Int)=(b:Int)):=Int.ne_of_lt (cz [(a:Int),(b:Int),(c:Int)] [E' (.a B0 B2) B1,K' (.n 0) B2] (K' B0 B1) rfl (cD.2 h1) (bZ.2 h2))
theorem Vq(h1:(x=1\/(x=2\/(x=3\/x=4)))):1<=x/\x<=4:=by lia
theorem Vr(h1:(a:Int)<=x):(-2^63)<=x-(a:Int)+1:=cz [x,(a:Int)] [L' B1 B0] (L' (.g (.n (2^63))) (.a (.s B0 B1) (.n 1))) rfl h1
theorem Vs(h1:a<=4*(b+11))(h2:b<=270000):a+1<=1400000:=cn [a,b] [L A0 (.m 4 (.a A1 (.n 11))),⟨0,4,A1,.n 270000⟩] (L (.a A0 (.n 1)) (.n 1400000)) rfl h1 h2
theorem Vt(h1:a<=5*(b+11))(h2:b<=270000):a+1<=1400000:=cn [a,b] [L A0 (.m 5 (.a A1 (.n 11))),⟨0,5,A1,.n 270000⟩] (L (.a A0 (.n 1)) (.n 1400000)) rfl h1 h2
theorem Vu(h1:c+d=a+1):a+b<=c+d+b:=cn [a,b,c,d] [F (.a A2 A3) (.a A0 (.n 1))] (L (.a A0 A1) (.a (.a A2 A3) A1)) rfl h1
theorem Vv(h1:b+1<=a):a-(b+1)+2+b=a+1:=bh (cn [a,b,(a-(b+1))] [E (.a A2 (.a A1 (.n 1))) A0] (L (.a (.a A2 (.n 2)) A1) (.a A0 (.n 1))) rfl (bC (cn [a,b,(a-(b+1))] [L (.a A1 (.n 1)) A0] (L (.a A1 (.n 1)) A0) rfl h1))) (cn [a,b,(a-(b+1))] [F (.a A2 (.a A1 (.n 1))) A0] (L (.a A0 (.n 1)) (.a (.a A2 (.n 2)) A1)) rfl (bC (cn [a,b,(a-(b+1))] [L (.a A1 (.n 1)) A0] (L (.a A1 (.n 1)) A0) rfl h1)))
theorem Vw(h1:(a:Int)-1<=x)(h2:x=(b:Int)):a<=b+1:=bf.1 (cz [(a:Int),(b:Int),x] [L' (.s B0 (.n 1)) B2,E' B2 B1] (L' B0 (.a B1 (.n 1))) rfl h1 h2)
theorem Vx(h1:b=16777216)(h2:a<=c+1)(h3:c<=100):a<=b+1:=cn [a,b,c] [F A1 (.n 16777216),L A0 (.a A2 (.n 1)),L A2 (.n 100)] (L A0 (.a A1 (.n 1))) rfl h1 h2 h3
theorem Vy(h1:a<=b+c)(h2:b<=100000)(h3:c<=4000):a<=200000:=cn [a,b,c] [L A0 (.a A1 A2),L A1 (.n 100000),L A2 (.n 4000)] (L A0 (.n 200000)) rfl h1 h2 h3
theorem Vz(h1:0<=x)(h2:x<2):1-2*x=1\/1-2*x=(-1):=by lia
theorem VA:x+y+(z+u)=x+z+(y+u):=bG (cz [x,y,z,u] [] (L' (.a (.a B0 B1) (.a B2 B3)) (.a (.a B0 B2) (.a B1 B3))) rfl) (cz [x,y,z,u] [] (L' (.a (.a B0 B2) (.a B1 B3)) (.a (.a B0 B1) (.a B2 B3))) rfl)
theorem VB:((a:Int)+1*(b:Int)).toNat=a+b:=bh (cn [a,b] [] (L (.a A0 (.m 1 A1)) (.a A0 A1)) rfl) (cn [a,b] [] (L (.a A0 A1) (.a A0 (.m 1 A1))) rfl)
theorem VC(h1:(a:Int)+1+(b:Int)<=x):x.toNat≠a:=Nat.ne_of_gt (bZ.1 (cz [x,(a:Int),(b:Int),(x.toNat:Int)] [L' (.a (.a B1 (.n 1)) B2) B0,F' B3 B0,L' (.n 0) B2] (K' B1 B3) rfl h1 (dG (cz [x,(a:Int),(b:Int),(x.toNat:Int)] [L' (.a (.a B1 (.n 1)) B2) B0,L' (.n 0) B1,L' (.n 0) B2] (L' (.n 0) B0) rfl h1 (bR a) (bR b))) (bR b)))
theorem VD(h1:d+b<=c)(h2:d=e+a+1):a+b<=c:=cn [a,b,c,d,e] [L (.a A3 A1) A2,F A3 (.a (.a A4 A0) (.n 1))] (L (.a A0 A1) A2) rfl h1 h2
theorem VE(h1:0<=y)(h2:x<y+1):x.toNat<(y+1).toNat:=by lia
theorem VF(h1:(b:Int)+1<=x)(h2:x<(a:Int)):x.toNat<a:=bZ.1 (cz [x,(a:Int),(b:Int),(x.toNat:Int)] [K' B0 B1,E' B3 B0] (K' B3 B1) rfl h2 (dG (cz [x,(a:Int),(b:Int),(x.toNat:Int)] [L' (.a B2 (.n 1)) B0,L' (.n 0) B2] (L' (.n 0) B0) rfl h1 (bR b))))
theorem VG(h1:(a:Int)+1+(b:Int)<=x):(a:Int)+1<=x:=cz [(a:Int),x,(b:Int)] [L' (.a (.a B0 (.n 1)) B2) B1,L' (.n 0) B2] (L' (.a B0 (.n 1)) B1) rfl h1 (bR b)
theorem VH(h1:b-1=a+(c+1))(h2:b=d)(h3:d<=1000):a<=1000:=cn [a,b,c,d,(b-1)] [F A4 (.a A0 (.a A2 (.n 1))),E A1 A3,L A3 (.n 1000),L A4 A1] (L A0 (.n 1000)) rfl h1 h2 h3 (Nat.sub_le b 1)
theorem VI(h1:a+2*(b+1)+2<c):a+2*b+2<c:=cn [a,b,c] [K (.a (.a A0 (.m 2 (.a A1 (.n 1)))) (.n 2)) A2] (K (.a (.a A0 (.m 2 A1)) (.n 2)) A2) rfl h1
theorem VJ(h1:b=a+(c+1))(h2:b<=d+1)(h3:d<=1000):a<=1001:=cn [a,b,c,d] [F A1 (.a A0 (.a A2 (.n 1))),L A1 (.a A3 (.n 1)),L A3 (.n 1000)] (L A0 (.n 1001)) rfl h1 h2 h3
theorem VK(h1:1*d<=c)(h2:b+a<=c+1):a+b-1<=c:=(sb (a+b) 1).elim (λp0=>cn [a,b,c,d,((a+b)-1)] [L (.a A1 A0) (.a A2 (.n 1)),E (.a A4 (.n 1)) (.a A0 A1)] (L A4 A2) rfl h2 p0.2) (λp0=>cn [a,b,c,d,((a+b)-1)] [E A4 (.n 0)] (L A4 A2) rfl p0.2)
theorem VL(h1:a+d<=c)(h2:e=d/2)(h3:b=e):a+b<=c:=cn [a,b,c,d,e,(d/2)] [L (.a A0 A3) A2,E A4 A5,E A1 A4,L (.m 2 A5) A3] (L (.a A0 A1) A2) rfl h1 h2 h3 (Nat.mul_div_le d 2)
theorem VM(h1:c+d=a+1):a+1+b<=c+d+b:=cn [a,b,c,d] [F (.a A2 A3) (.a A0 (.n 1))] (L (.a (.a A0 (.n 1)) A1) (.a (.a A2 A3) A1)) rfl h1
theorem VN(h1:b=c+d):a+b+1=a+c+1+d:=bh (cn [a,b,c,d] [E A1 (.a A2 A3)] (L (.a (.a A0 A1) (.n 1)) (.a (.a (.a A0 A2) (.n 1)) A3)) rfl h1) (cn [a,b,c,d] [F A1 (.a A2 A3)] (L (.a (.a (.a A0 A2) (.n 1)) A3) (.a (.a A0 A1) (.n 1))) rfl h1)
theorem VO(h1:a+b+1+c<=d+1):a+(b+c)<=d:=cn [a,b,c,d] [L (.a (.a (.a A0 A1) (.n 1)) A2) (.a A3 (.n 1))] (L (.a A0 (.a A1 A2)) A3) rfl h1
theorem VP:1*(1*x+y)+(-1)*z=x+y-z:=bG (cz [x,y,z] [] (L' (.a (.m 1 (.a (.m 1 B0) B1)) (.m (-1) B2)) (.s (.a B0 B1) B2)) rfl) (cz [x,y,z] [] (L' (.s (.a B0 B1) B2) (.a (.m 1 (.a (.m 1 B0) B1)) (.m (-1) B2))) rfl)
theorem VQ(h1:v=x+u)(h2:v=y+z):x-y=z-u:=bG (cz [x,y,z,u,v] [F' B4 (.a B0 B3),E' B4 (.a B1 B2)] (L' (.s B0 B1) (.s B2 B3)) rfl h1 h2) (cz [x,y,z,u,v] [E' B4 (.a B0 B3),F' B4 (.a B1 B2)] (L' (.s B2 B3) (.s B0 B1)) rfl h1 h2)
theorem VR(h1:b=1)(h2:c=16777216)(h3:d<=900)(h4:a<=d):a+b<=c:=cn [a,b,c,d] [E A1 (.n 1),F A2 (.n 16777216),L A3 (.n 900),L A0 A3] (L (.a A0 A1) A2) rfl h1 h2 h3 h4
theorem VS(h1:b=16777216)(h2:c<=d+1)(h3:d<=1000)(h4:a<=c):a<b:=cn [a,b,c,d] [F A1 (.n 16777216),L A2 (.a A3 (.n 1)),L A3 (.n 1000),L A0 A2] (K A0 A1) rfl h1 h2 h3 h4
theorem VT(h1:b=16777216)(h2:a<=2^17):1*(a:Int).toNat<=b:=cn [a,b] [F A1 (.n 16777216),L A0 (.n (2^17))] (L (.m 1 A0) A1) rfl h1 h2
theorem VU(h1:c+d<=b)(h2:a=d/2):(min a (b-c))=a:=by lia
theorem VV(h1:(-(a:Int))<=x)(h2:x<0):(x+(a:Int)).toNat<a:=bZ.1 (cz [x,(a:Int),(((x+(a:Int))).toNat:Int)] [K' B0 (.n 0),E' B2 (.a B0 B1)] (K' B2 B1) rfl h2 (dG (cz [x,(a:Int),(((x+(a:Int))).toNat:Int)] [L' (.g B1) B0] (L' (.n 0) (.a B0 B1)) rfl h1)))
theorem VW:a+1+(b+1)<=c+a*1+1*(b+1)+1:=cn [a,b,c] [] (L (.a (.a A0 (.n 1)) (.a A1 (.n 1))) (.a (.a (.a A2 (.w A0 1)) (.m 1 (.a A1 (.n 1)))) (.n 1))) rfl
theorem VX(h1:a<=b+2*c)(h2:b<=200000)(h3:c<=200000):a<=600000:=cn [a,b,c] [L A0 (.a A1 (.m 2 A2)),L A1 (.n 200000),⟨0,2,A2,.n 200000⟩] (L A0 (.n 600000)) rfl h1 h2 h3
theorem VY(h1:a<=(max 40 (801+900*b))+1):a<=900*(b+1):=by lia
theorem VZ(h1:a+2*d+2<c)(h2:b<=d):a+2*b+2<c:=cn [a,b,c,d] [K (.a (.a A0 (.m 2 A3)) (.n 2)) A2,⟨0,2,A1,A3⟩] (K (.a (.a A0 (.m 2 A1)) (.n 2)) A2) rfl h1 h2
theorem V0(h1:a+c+1<=d)(h2:d-1-c=b+1):a<=b+1:=cn [a,b,c,d,((d-1)-c),(d-1)] [L (.a (.a A0 A2) (.n 1)) A3,E A4 (.a A1 (.n 1)),L A5 (.a A4 A2),F (.a A5 (.n 1)) A3] (L A0 (.a A1 (.n 1))) rfl h1 h2 (JX (d-1) c) (bC (cn [a,b,c,d,((d-1)-c),(d-1)] [L (.a (.a A0 A2) (.n 1)) A3] (L (.n 1) A3) rfl h1))
theorem V3(h1:(-(a:Int))<=x)(h2:b=16777216)(h3:a<=b):(-2^63)<=x:=cz [x,(a:Int),(b:Int)] [L' (.g B1) B0,E' B2 (.n 16777216),L' B1 B2] (L' (.g (.n (2^63))) B0) rfl h1 (cD.2 h2) (bf.2 h3)
theorem V4(h1:d=16777216)(h2:a=2)(h3:c=5)(h4:b<=10):a+b+c<=d:=cn [a,b,c,d] [F A3 (.n 16777216),E A0 (.n 2),E A2 (.n 5),L A1 (.n 10)] (L (.a (.a A0 A1) A2) A3) rfl h1 h2 h3 h4
theorem V5:1+((max (a+a) (10+a+a))+1)<=2*a+14:=by lia
theorem V6:a+(b+c)+d+1<=a+(b+c)+d+1:=cn [a,b,c,d] [] (L (.a (.a (.a A0 (.a A1 A2)) A3) (.n 1)) (.a (.a (.a A0 (.a A1 A2)) A3) (.n 1))) rfl
theorem V7(h1:a=16777216)(h2:b=c)(h3:b<=a)(h4:x<(c:Int)):x<2^63:=cz [x,(a:Int),(b:Int),(c:Int)] [E' B1 (.n 16777216),F' B2 B3,L' B2 B1,K' B0 B3] (K' B0 (.n (2^63))) rfl (cD.2 h1) (cD.2 h2) (bf.2 h3) h4
theorem V8(h1:c=16777216)(h2:a<=4*d)(h3:d<=1000)(h4:b<=3):a+b<=c:=cn [a,b,c,d] [F A2 (.n 16777216),L A0 (.m 4 A3),⟨0,4,A3,.n 1000⟩,L A1 (.n 3)] (L (.a A0 A1) A2) rfl h1 h2 h3 h4
theorem V9(h1:(b:Int)+1<=x):a-1-x.toNat<=a-2-b:=aX (Nat.sub_le_sub_left (bf.1 (cz [(b:Int),x,(x.toNat:Int)] [L' (.a B0 (.n 1)) B1,L' B1 B2] (L' (.a (.n 1) B0) B2) rfl h1 (Int.self_le_toNat x)):1+b<=x.toNat) (a-1)) (Nat.le_of_eq (Nat.sub_sub (a-1) 1 b).symm)
theorem V_(h1:801+(a+1)<=b):(max (800+(a+1)) (a+1))+1<=b:=by lia
theorem Wa(h1:a<((c:Int)-1).toNat)(h2:b=d)(h3:c=d):a+1<b:=(tn ((c:Int)-1)).elim (λp0=>bZ.1 (cz [(a:Int),(b:Int),(c:Int),(d:Int),((((c:Int)-1)).toNat:Int)] [K' B0 B4,F' B1 B3,E' B2 B3,E' B4 (.s B2 (.n 1))] (K' (.a B0 (.n 1)) B1) rfl (bZ.2 h1) (cD.2 h2) (cD.2 h3) p0.2)) (λp0=>cn [a,b,c,d,(((c:Int)-1)).toNat] [⟨1,2,A0,A4⟩,⟨2,2,A4,.n 0⟩] (K (.a A0 (.n 1)) A1) rfl h1 p0.2)
theorem Wb(h1:c=b)(h2:c<=4000)(h3:a<=b):(a:Int)+(b:Int)<=2^27:=cz [(a:Int),(b:Int),(c:Int)] [⟨2,(-2),B2,B1⟩,⟨0,2,B2,.n 4000⟩,L' B0 B1] (L' (.a B0 B1) (.n (2^27))) rfl (cD.2 h1) (bf.2 h2) (bf.2 h3)
theorem Wc(h1:a+1+d<=c)(h2:d=e+b+1):a+1+b<=c:=cn [a,b,c,d,e] [L (.a (.a A0 (.n 1)) A3) A2,F A3 (.a (.a A4 A1) (.n 1))] (L (.a (.a A0 (.n 1)) A1) A2) rfl h1 h2
theorem Wd(h1:b=1)(h2:c=16777216)(h3:d=2)(h4:a<=4*d+3):a+b<=c:=cn [a,b,c,d] [E A1 (.n 1),F A2 (.n 16777216),⟨2,4,A3,.n 2⟩,L A0 (.a (.m 4 A3) (.n 3))] (L (.a A0 A1) A2) rfl h1 h2 h3 h4
theorem We:(max 0 (min (a:Int) (b:Int)))=((min a b:Nat):Int):=by lia
theorem Wf(h1:a+20*d+40<c)(h2:b<=d):a+20*b+40<c:=cn [a,b,c,d] [K (.a (.a A0 (.m 20 A3)) (.n 40)) A2,⟨0,20,A1,A3⟩] (K (.a (.a A0 (.m 20 A1)) (.n 40)) A2) rfl h1 h2
theorem Wg(h1:a+20*(b+1)+40<c):a+3+20*b+40<c:=cn [a,b,c] [K (.a (.a A0 (.m 20 (.a A1 (.n 1)))) (.n 40)) A2] (K (.a (.a (.a A0 (.n 3)) (.m 20 A1)) (.n 40)) A2) rfl h1
theorem Wh(h1:b+1<=1400000)(h2:a<=270000):10+a+(b+1)<=134217728:=cn [a,b] [L (.a A1 (.n 1)) (.n 1400000),L A0 (.n 270000)] (L (.a (.a (.n 10) A0) (.a A1 (.n 1))) (.n 134217728)) rfl h1 h2
theorem Wi(h1:1<=z)(h2:y<x):(x-(y+z)).toNat<(x-y).toNat:=(tn (x-y)).elim (λp0=>(tn (x-(y+z))).elim (λp1=>bZ.1 (cz [x,y,z,(((x-(y+z))).toNat:Int),(((x-y)).toNat:Int)] [L' (.n 1) B2,F' B4 (.s B0 B1),E' B3 (.s B0 (.a B1 B2))] (K' B3 B4) rfl h1 p0.2 p1.2)) (λp1=>bZ.1 (cz [x,y,z,(((x-(y+z))).toNat:Int),(((x-y)).toNat:Int)] [K' B1 B0,F' B4 (.s B0 B1),E' B3 (.n 0)] (K' B3 B4) rfl h2 p0.2 (cD.2 p1.2)))) (λp0=>(Int.lt_irrefl 0 (cz [x,y,z,(((x-y)).toNat:Int)] [K' B1 B0,L' (.s B0 B1) (.n 0)] (K' (.n 0) (.n 0)) rfl h2 p0.1)).elim)
theorem Wj(h1:a+20*(b+1)+40<c):a+1+20*b+40<c:=cn [a,b,c] [K (.a (.a A0 (.m 20 (.a A1 (.n 1)))) (.n 40)) A2] (K (.a (.a (.a A0 (.n 1)) (.m 20 A1)) (.n 40)) A2) rfl h1
theorem Wk(h1:a+c<=b):(min a b)+(c+(b-(a+c)))=b:=by lia
theorem Wl(h1:d=c+b+1):a+1+b+c+1<=a+1+d:=cn [a,b,c,d] [F A3 (.a (.a A2 A1) (.n 1))] (L (.a (.a (.a (.a A0 (.n 1)) A1) A2) (.n 1)) (.a (.a A0 (.n 1)) A3)) rfl h1
theorem Wm(h1:a+e<=d)(h2:e=c+b+1):a+b+1+c<=d:=cn [a,b,c,d,e] [L (.a A0 A4) A3,F A4 (.a (.a A2 A1) (.n 1))] (L (.a (.a (.a A0 A1) (.n 1)) A2) A3) rfl h1 h2
theorem Wn(h1:a+e<=d)(h2:e=c+b+1):a+b+c+1<=d:=cn [a,b,c,d,e] [L (.a A0 A4) A3,F A4 (.a (.a A2 A1) (.n 1))] (L (.a (.a (.a A0 A1) A2) (.n 1)) A3) rfl h1 h2
theorem Wo(h1:b+a+1+c<=d+1):a+(b+c+1)<=d+1:=cn [a,b,c,d] [L (.a (.a (.a A1 A0) (.n 1)) A2) (.a A3 (.n 1))] (L (.a A0 (.a (.a A1 A2) (.n 1))) (.a A3 (.n 1))) rfl h1
theorem Wq(h1:b=c)(h2:a<=d+c-1)(h3:d<=100000)(h4:b<=4000):a<=200000:=by omega
theorem Wr:((a:Int)+((a+b:Nat):Int))/2^1=((a+b/2:Nat):Int):=by lia
theorem Ws(h1:1*a<=b)(h2:b<=c+d)(h3:c<=100000)(h4:d<=4000):a<=2^17:=cn [a,b,c,d] [L (.m 1 A0) A1,L A1 (.a A2 A3),L A2 (.n 100000),L A3 (.n 4000)] (L A0 (.n (2^17))) rfl h1 h2 h3 h4
theorem Wt(h1:c=16777216)(h2:a<=4*d+3)(h3:b<=10)(h4:d<=10):a+b<=c:=cn [a,b,c,d] [F A2 (.n 16777216),L A0 (.a (.m 4 A3) (.n 3)),L A1 (.n 10),⟨0,4,A3,.n 10⟩] (L (.a A0 A1) A2) rfl h1 h2 h3 h4
theorem Wu(h1:c=1)(h2:a<=4*d+3)(h3:b<=10)(h4:d<=10):a+b+c<=1000:=cn [a,b,c,d] [E A2 (.n 1),L A0 (.a (.m 4 A3) (.n 3)),L A1 (.n 10),⟨0,4,A3,.n 10⟩] (L (.a (.a A0 A1) A2) (.n 1000)) rfl h1 h2 h3 h4
theorem Wv:a+(b+c)+1+d+1<=a+(b+c)+d+2:=cn [a,b,c,d] [] (L (.a (.a (.a (.a A0 (.a A1 A2)) (.n 1)) A3) (.n 1)) (.a (.a (.a A0 (.a A1 A2)) A3) (.n 2))) rfl
theorem Ww(h1:(x+(a:Int)).toNat<b)(h2:b<=1000):x+(a:Int)<=2000:=cz [x,(a:Int),(b:Int),(((x+(a:Int))).toNat:Int)] [K' B3 B2,L' B2 (.n 1000),L' (.a B0 B1) B3] (L' (.a B0 B1) (.n 2000)) rfl (bZ.2 h1) (bf.2 h2) (Int.self_le_toNat (x+(a:Int)))
theorem Wx(h1:a<=1522):1+((max (a+a) (10+a+a))+1)<=134217728:=by lia
theorem Wy(h1:c=b)(h2:a<=b+b)(h3:c<=4000):(a:Int)-(b:Int)<=4000:=cz [(a:Int),(b:Int),(c:Int)] [F' B2 B1,L' B0 (.a B1 B1),L' B2 (.n 4000)] (L' (.s B0 B1) (.n 4000)) rfl (cD.2 h1) (bf.2 h2) (bf.2 h3)
theorem Wz(h1:b=c/2)(h2:c<=200000):((a+b:Nat):Int)-(a:Int)<2^64:=cz [(a:Int),(b:Int),(c:Int),((c/2):Int)] [⟨2,2,B1,B3⟩,L' B2 (.n 200000),L' (.m 2 B3) B2,L' (.n 0) B1] (K' (.s (.a B0 B1) B0) (.n (2^64))) rfl (cD.2 h1) (bf.2 h2) (bf.2 (Nat.mul_div_le c 2)) (bR b)
theorem WA(h1:(x=(b:Int)\/x=(b:Int)-(a:Int))):(-(a:Int))<=x:=by lia
theorem WB(h1:(-(a:Int))<=x)(h2:b=16777216)(h3:c=a)(h4:c<=b):(-2^63)<=x:=cz [x,(a:Int),(b:Int),(c:Int)] [L' (.g B1) B0,E' B2 (.n 16777216),F' B3 B1,L' B3 B2] (L' (.g (.n (2^63))) B0) rfl h1 (cD.2 h2) (cD.2 h3) (bf.2 h4)
theorem WC(h1:c=16777216)(h2:a<=30*d+20)(h3:d<=1000)(h4:b<=8):a+b<=c:=cn [a,b,c,d] [F A2 (.n 16777216),L A0 (.a (.m 30 A3) (.n 20)),⟨0,30,A3,.n 1000⟩,L A1 (.n 8)] (L (.a A0 A1) A2) rfl h1 h2 h3 h4
theorem WD(h1:f+b=d+e)(h2:a=c+f):a+b=c+d+e:=bh (cn [a,b,c,d,e,f] [E (.a A5 A1) (.a A3 A4),E A0 (.a A2 A5)] (L (.a A0 A1) (.a (.a A2 A3) A4)) rfl h1 h2) (cn [a,b,c,d,e,f] [F (.a A5 A1) (.a A3 A4),F A0 (.a A2 A5)] (L (.a (.a A2 A3) A4) (.a A0 A1)) rfl h1 h2)
theorem WE(h1:d+e<=c)(h2:d=a+f+1)(h3:b=f+e):a+b<=c:=cn [a,b,c,d,e,f] [L (.a A3 A4) A2,F A3 (.a (.a A0 A5) (.n 1)),E A1 (.a A5 A4)] (L (.a A0 A1) A2) rfl h1 h2 h3
theorem WG(h1:4*x+z=4*y+u)(h2:0<=z)(h3:0<=u)(h4:z<=3)(h5:u<=3):x=y:=by lia
theorem WH(h1:c<d)(h2:b=16777216)(h3:e<=c+1)(h4:d<=1000)(h5:a<=e):1+a<=b:=cn [a,b,c,d,e] [K A2 A3,F A1 (.n 16777216),L A4 (.a A2 (.n 1)),L A3 (.n 1000),L A0 A4] (L (.a (.n 1) A0) A1) rfl h1 h2 h3 h4 h5
theorem WI(h1:c<d)(h2:b=16777216)(h3:e<=c+1)(h4:d<=1000)(h5:a<=e):a+1<=b:=cn [a,b,c,d,e] [K A2 A3,F A1 (.n 16777216),L A4 (.a A2 (.n 1)),L A3 (.n 1000),L A0 A4] (L (.a A0 (.n 1)) A1) rfl h1 h2 h3 h4 h5
theorem WJ(h1:b+c=a):(a:Int)+(b:Int)-2*(b:Int)=(c:Int):=bG (cz [(a:Int),(b:Int),(c:Int)] [F' (.a B1 B2) B0] (L' (.s (.a B0 B1) (.m 2 B1)) B2) rfl (cD.2 h1)) (cz [(a:Int),(b:Int),(c:Int)] [E' (.a B1 B2) B0] (L' B2 (.s (.a B0 B1) (.m 2 B1))) rfl (cD.2 h1))
theorem WK(h1:c=b+d)(h2:c<=200000)(h3:a<=c):(a:Int)+(b:Int)<=2^27:=cz [(a:Int),(b:Int),(c:Int),(d:Int)] [F' B2 (.a B1 B3),⟨0,2,B2,.n 200000⟩,L' B0 B2,L' (.n 0) B3] (L' (.a B0 B1) (.n (2^27))) rfl (cD.2 h1) (bf.2 h2) (bf.2 h3) (bR d)
theorem WL(h1:a+e<=d)(h2:c=e-e/2)(h3:b=e/2):a+b+c<=d:=by lia
theorem WM(h1:d+e<=c)(h2:b=f+e+1)(h3:d=f+a+1):a+b<=c:=cn [a,b,c,d,e,f] [L (.a A3 A4) A2,E A1 (.a (.a A5 A4) (.n 1)),F A3 (.a (.a A5 A0) (.n 1))] (L (.a A0 A1) A2) rfl h1 h2 h3
theorem WN(h1:b=d+e+1)(h2:f=d+c+1)(h3:a<=e+f):a<=b+c:=cn [a,b,c,d,e,f] [F A1 (.a (.a A3 A4) (.n 1)),E A5 (.a (.a A3 A2) (.n 1)),L A0 (.a A4 A5)] (L A0 (.a A1 A2)) rfl h1 h2 h3
theorem WO(h1:d+e<=c)(h2:d=a+f+1)(h3:b=f+e):a+b+1<=c:=cn [a,b,c,d,e,f] [L (.a A3 A4) A2,F A3 (.a (.a A0 A5) (.n 1)),E A1 (.a A5 A4)] (L (.a (.a A0 A1) (.n 1)) A2) rfl h1 h2 h3
theorem WQ(h1:d+20*(b+1)+40<c)(h2:a<=d+10):a+20*b+40<c:=cn [a,b,c,d] [K (.a (.a A3 (.m 20 (.a A1 (.n 1)))) (.n 40)) A2,L A0 (.a A3 (.n 10))] (K (.a (.a A0 (.m 20 A1)) (.n 40)) A2) rfl h1 h2
theorem WR(h1:a<=30*d+20)(h2:c<=20)(h3:b<=8):a+b+c<=30*(d+1)+20:=cn [a,b,c,d] [L A0 (.a (.m 30 A3) (.n 20)),L A2 (.n 20),L A1 (.n 8)] (L (.a (.a A0 A1) A2) (.a (.m 30 (.a A3 (.n 1))) (.n 20))) rfl h1 h2 h3
theorem WT(h1:c<d)(h2:d<=b)(h3:x<=(c:Int)):1*(x-(a:Int)+1).toNat<=b:=by lia
theorem WU:(max (a+1+b) (10+b+(a+1)))+1<=a+1*(b+11)+1:=(mxn ((a+1)+b) ((10+b)+(a+1))).elim (λp0=>cn [a,b,(max ((a+1)+b) ((10+b)+(a+1)))] [E A2 (.a (.a A0 (.n 1)) A1)] (L (.a A2 (.n 1)) (.a (.a A0 (.m 1 (.a A1 (.n 11)))) (.n 1))) rfl p0.2) (λp0=>cn [a,b,(max ((a+1)+b) ((10+b)+(a+1)))] [E A2 (.a (.a (.n 10) A1) (.a A0 (.n 1)))] (L (.a A2 (.n 1)) (.a (.a A0 (.m 1 (.a A1 (.n 11)))) (.n 1))) rfl p0.2)
theorem WV(h1:(x=(b:Int)\/x=(b:Int)-(c:Int)))(h2:a=c):(-(a:Int))<=x:=by lia
theorem WW(h1:x.toNat<a)(h2:0<=x)(h3:a<=16777216):¬(x<(-2^63))/\¬(x≥2^63):=by lia
theorem WX(h1:c+d<=b)(h2:c=e+f+1)(h3:g=f+d)(h4:a<=e+g):a<=b:=cn [a,b,c,d,e,f,g] [L (.a A2 A3) A1,F A2 (.a (.a A4 A5) (.n 1)),E A6 (.a A5 A3),L A0 (.a A4 A6)] (L A0 A1) rfl h1 h2 h3 h4
theorem WY(h1:3*x+y<3*z+u)(h2:0<=y)(h3:u<=2):4*x+y<4*z+u:=by lia
theorem WZ(h1:¬((a:Int)<=x)):(a:Int)=(max (a:Int) (x+1))\/(x<0/\a=a):=Or.inl (bG (cz [(a:Int),x,(max (a:Int) (x+1))] [L' B0 B2] (L' B0 B2) rfl (kj (a:Int) (x+1))) (Int.max_le.2 ⟨cz [(a:Int),x] [] (L' B0 B0) rfl,cz [(a:Int),x] [K' B1 B0] (L' (.a B1 (.n 1)) B0) rfl (Int.not_le.1 h1)⟩))
theorem W0(h1:c=1)(h2:d=16777216)(h3:a<=4*e+3)(h4:b<=10)(h5:e<=10):a+b+c<=d:=cn [a,b,c,d,e] [E A2 (.n 1),F A3 (.n 16777216),L A0 (.a (.m 4 A4) (.n 3)),L A1 (.n 10),⟨0,4,A4,.n 10⟩] (L (.a (.a A0 A1) A2) A3) rfl h1 h2 h3 h4 h5
theorem W2(h1:b<c)(h2:d=16777216)(h3:c<=d)(h4:x<=(b:Int)):x-(a:Int)+1<2^63:=by lia
theorem W3(h1:1<=x)(h2:a<((c:Int)-x).toNat)(h3:c=b):(x+(a:Int)).toNat<b:=by lia
theorem W4(h1:a+2*(d+1)+2<e)(h2:b=0)(h3:c=1):a+b+c+2*d+2<e:=cn [a,b,c,d,e] [K (.a (.a A0 (.m 2 (.a A3 (.n 1)))) (.n 2)) A4,E A1 (.n 0),E A2 (.n 1)] (K (.a (.a (.a (.a A0 A1) A2) (.m 2 A3)) (.n 2)) A4) rfl h1 h2 h3
theorem W5(h1:a+2*(d+1)+2<e)(h2:c=0)(h3:b=1):a+b+c+2*d+2<e:=cn [a,b,c,d,e] [K (.a (.a A0 (.m 2 (.a A3 (.n 1)))) (.n 2)) A4,E A2 (.n 0),E A1 (.n 1)] (K (.a (.a (.a (.a A0 A1) A2) (.m 2 A3)) (.n 2)) A4) rfl h1 h2 h3
theorem W6(h1:a+e<=f)(h2:c=e-e/2)(h3:b=e/2)(h4:d=f):a+b+c<=d:=by subst h2 h3 h4;exact cn [a,e-e/2,e/2,e,d] [E (.a A1 A2) A3,L (.a A0 A3) A4] (L (.a (.a A0 A2) A1) A4) rfl (hf e) h1
theorem W7(h1:a+c<=d)(h2:b=c/2)(h3:d<=200000):((a+b:Nat):Int)-(a:Int)<2^64:=by lia
theorem W8(h1:c+d<=b)(h2:c=e+f+1)(h3:g=e+d+1)(h4:a<=f+g):a<=b:=cn [a,b,c,d,e,f,g] [L (.a A2 A3) A1,F A2 (.a (.a A4 A5) (.n 1)),E A6 (.a (.a A4 A3) (.n 1)),L A0 (.a A5 A6)] (L A0 A1) rfl h1 h2 h3 h4
theorem W9(h1:d=16777216)(h2:a<=30*e+20)(h3:e<=1000)(h4:c<=20)(h5:b<=8):a+b+c<=d:=cn [a,b,c,d,e] [F A3 (.n 16777216),L A0 (.a (.m 30 A4) (.n 20)),⟨0,30,A4,.n 1000⟩,L A2 (.n 20),L A1 (.n 8)] (L (.a (.a A0 A1) A2) A3) rfl h1 h2 h3 h4 h5
theorem W_(h1:c+e<=b)(h2:a=e-e/2)(h3:d=e/2):(min a (b-(c+d)))=a:=by subst h2 h3;exact Nat.min_eq_left (Nat.le_sub_of_add_le (cn [e-e/2,e/2,c,b,e] [E (.a A0 A1) A4,L (.a A2 A4) A3] (L (.a A0 (.a A2 A1)) A3) rfl (hf e) h1))
theorem Xa(h1:a<=10000+c)(h2:d<=200000)(h3:c<=600000)(h4:b<=d):(a:Int)+(b:Int)<=2^27:=cz [(a:Int),(b:Int),(c:Int),(d:Int)] [L' B0 (.a (.n 10000) B2),L' B3 (.n 200000),L' B2 (.n 600000),L' B1 B3] (L' (.a B0 B1) (.n (2^27))) rfl (bf.2 h1) (bf.2 h2) (bf.2 h3) (bf.2 h4)
theorem Xb(h1:(a:Int)+1+(b:Int)<=x)(h2:1<=y):(a:Int)+1+((b+1:Nat):Int)<=x+y:=cz [(a:Int),(b:Int),x,y] [L' (.a (.a B0 (.n 1)) B1) B2,L' (.n 1) B3] (L' (.a (.a B0 (.n 1)) (.a B1 (.n 1))) (.a B2 B3)) rfl h1 h2
theorem Xc(h1:a+20*(d+1)+40<e)(h2:b=0)(h3:c=3):a+b+c+20*d+40<e:=cn [a,b,c,d,e] [K (.a (.a A0 (.m 20 (.a A3 (.n 1)))) (.n 40)) A4,E A1 (.n 0),E A2 (.n 3)] (K (.a (.a (.a (.a A0 A1) A2) (.m 20 A3)) (.n 40)) A4) rfl h1 h2 h3
theorem Xd(h1:a+20*(d+1)+40<e)(h2:c=0)(h3:b=3):a+b+c+20*d+40<e:=cn [a,b,c,d,e] [K (.a (.a A0 (.m 20 (.a A3 (.n 1)))) (.n 40)) A4,E A2 (.n 0),E A1 (.n 3)] (K (.a (.a (.a (.a A0 A1) A2) (.m 20 A3)) (.n 40)) A4) rfl h1 h2 h3
theorem Xe:(a:Int)-(b:Int)-(c:Int)=(a:Int)+1-(b:Int)-((c:Int)+1):=bG (cz [(a:Int),(b:Int),(c:Int)] [] (L' (.s (.s B0 B1) B2) (.s (.s (.a B0 (.n 1)) B1) (.a B2 (.n 1)))) rfl) (cz [(a:Int),(b:Int),(c:Int)] [] (L' (.s (.s (.a B0 (.n 1)) B1) (.a B2 (.n 1))) (.s (.s B0 B1) B2)) rfl)
theorem Xf(h1:(-2^63)<=x)(h2:x<2^63):(-9223372036854775808)<=x/\x<9223372036854775808:=⟨cz [x] [L' (.g (.n (2^63))) B0] (L' (.g (.n 9223372036854775808)) B0) rfl h1,cz [x] [K' B0 (.n (2^63))] (K' B0 (.n 9223372036854775808)) rfl h2⟩
theorem Xg(h1:(x=(b:Int)\/x=(b:Int)-(a:Int)))(h2:¬(0<=x)):(x+(a:Int)).toNat=b:=by lia
theorem Xh(h1:a+e<=d)(h2:f=e-e/2)(h3:g=e/2)(h4:b=g)(h5:c=f):a+(b+c)<=d:=by lia
theorem Xi(h1:(a:Int)<=x)(h2:c<d)(h3:d<=b)(h4:x<=(c:Int)):a+(x-(a:Int)+1).toNat<=b:=bf.1 (cz [(a:Int),x,(b:Int),(c:Int),(d:Int),((((x-(a:Int))+1)).toNat:Int)] [K' B3 B4,L' B4 B2,L' B1 B3,E' B5 (.a (.s B1 B0) (.n 1))] (L' (.a B0 B5) B2) rfl (bZ.2 h2) (bf.2 h3) h4 (dG (cz [(a:Int),x,(b:Int),(c:Int),(d:Int),((((x-(a:Int))+1)).toNat:Int)] [L' B0 B1] (L' (.n 0) (.a (.s B1 B0) (.n 1))) rfl h1)))
theorem Xj(h1:0<=x)(h2:x<=8):x=0\/(x=1\/(x=2\/(x=3\/(x=4\/(x=5\/(x=6\/(x=7\/x=8))))))):=by lia
theorem Xk(h1:x.natAbs<=54*c)(h2:y.natAbs<=b):(x+1*y).natAbs<=a+b+64*c:=aX (Int.natAbs_add_le _ _) (aX (Nat.add_le_add h1 ((fc y).symm▸h2)) (cn [a,b,c] [] (L (.a (.m 54 A2) A1) (.a (.a A0 A1) (.m 64 A2))) rfl))
theorem Xl(h1:(x=(b:Int)\/x=(b:Int)-(c:Int)))(h2:a=c)(h3:¬(0<=x)):(x+(a:Int)).toNat=b:=by lia
theorem Xm(h1:y.natAbs<=24*a)(h2:x.natAbs<=a)(h3:z.natAbs<=b):(x+y-z).natAbs<=25*a+b:=aX (Int.natAbs_sub_le _ _) (aX (Nat.add_le_add (aX (Int.natAbs_add_le _ _) (Nat.add_le_add h2 h1)) h3) (cn [a,b] [] (L (.a (.a A0 (.m 24 A0)) A1) (.a (.m 25 A0) A1)) rfl))
theorem Xn(h1:2*x+y<2*z+u)(h2:0<=y)(h3:u<=1):3*x+y<3*z+u/\4*x+y<4*z+u:=by lia
theorem Xo(h1:e+1+c=d)(h2:a+b=e):a+(b+(c+(0+1+1+1+1)+(0+1)+1))=d+1+1+1+1+1:=bh (cn [a,b,c,d,e] [E (.a (.a A4 (.n 1)) A2) A3,E (.a A0 A1) A4] (L (.a A0 (.a A1 (.a (.a (.a A2 (.a (.a (.a (.a (.n 0) (.n 1)) (.n 1)) (.n 1)) (.n 1))) (.a (.n 0) (.n 1))) (.n 1)))) (.a (.a (.a (.a (.a A3 (.n 1)) (.n 1)) (.n 1)) (.n 1)) (.n 1))) rfl h1 h2) (cn [a,b,c,d,e] [F (.a (.a A4 (.n 1)) A2) A3,F (.a A0 A1) A4] (L (.a (.a (.a (.a (.a A3 (.n 1)) (.n 1)) (.n 1)) (.n 1)) (.n 1)) (.a A0 (.a A1 (.a (.a (.a A2 (.a (.a (.a (.a (.n 0) (.n 1)) (.n 1)) (.n 1)) (.n 1))) (.a (.n 0) (.n 1))) (.n 1))))) rfl h1 h2)
theorem Xp:x<((a+(x-(a:Int)+1).toNat:Nat):Int)/\((a+(x-(a:Int)+1).toNat:Nat):Int)<=(max (a:Int) (x+1)):=⟨cz [x,(a:Int),((((x-(a:Int))+1)).toNat:Int)] [L' (.a (.s B0 B1) (.n 1)) B2] (K' B0 (.a B1 B2)) rfl (Int.self_le_toNat ((x-(a:Int))+1)),(tn ((x-(a:Int))+1)).elim (λp0=>cz [x,(a:Int),((((x-(a:Int))+1)).toNat:Int),(max (a:Int) (x+1))] [E' B2 (.a (.s B0 B1) (.n 1)),L' (.a B0 (.n 1)) B3] (L' (.a B1 B2) B3) rfl p0.2 (Int.le_max_right (a:Int) (x+1))) (λp0=>cz [x,(a:Int),((((x-(a:Int))+1)).toNat:Int),(max (a:Int) (x+1))] [E' B2 (.n 0),L' B1 B3] (L' (.a B1 B2) B3) rfl (cD.2 p0.2) (kj (a:Int) (x+1)))⟩
theorem Xq(h1:2^40<=z)(h2:x.natAbs<=2^36)(h3:u.natAbs<=24)(h4:0<=v)(h5:v<2)(h6:z=y*2+v):0<=x+y/\x+y<z-u:=by omega
theorem Xr:((a+(x-(a:Int)+1).toNat:Nat):Int)=(max (a:Int) (x+1))\/(x<0/\a+(x-(a:Int)+1).toNat=a):=by lia
theorem Xs(h1:a<=8)(h2:b<=8)(h3:c<=8)(h4:d<=8)(h5:e<=8)(h6:f<=8):0+1+(a+(0+1)+(b+(0+1)+(c+(0+1)+(d+(0+1)+(e+(0+1)+(f+0))))))<=1000:=cn [a,b,c,d,e,f] [L A0 (.n 8),L A1 (.n 8),L A2 (.n 8),L A3 (.n 8),L A4 (.n 8),L A5 (.n 8)] (L (.a (.a (.n 0) (.n 1)) (.a (.a A0 (.a (.n 0) (.n 1))) (.a (.a A1 (.a (.n 0) (.n 1))) (.a (.a A2 (.a (.n 0) (.n 1))) (.a (.a A3 (.a (.n 0) (.n 1))) (.a (.a A4 (.a (.n 0) (.n 1))) (.a A5 (.n 0)))))))) (.n 1000)) rfl h1 h2 h3 h4 h5 h6
theorem Xu(h1:x+z<y+u)(h2:0<=z)(h3:u<=3):x<=y↔(x+z<y+u/\(2*x+z<2*y+u/\(3*x+z<3*y+u/\4*x+z<4*y+u))):=⟨λq=>⟨h1,cz [x,y,z,u] [K' (.a B0 B2) (.a B1 B3),L' B0 B1] (K' (.a (.m 2 B0) B2) (.a (.m 2 B1) B3)) rfl h1 q,cz [x,y,z,u] [K' (.a B0 B2) (.a B1 B3),⟨0,2,B0,B1⟩] (K' (.a (.m 3 B0) B2) (.a (.m 3 B1) B3)) rfl h1 q,cz [x,y,z,u] [K' (.a B0 B2) (.a B1 B3),⟨0,3,B0,B1⟩] (K' (.a (.m 4 B0) B2) (.a (.m 4 B1) B3)) rfl h1 q⟩,λq=>Int.not_lt.1 λr=>Int.not_lt.2 (cz [x,y,z,u] [⟨1,4,B1,B0⟩,L' (.n 0) B2,L' B3 (.n 3)] (L' (.a (.m 4 B1) B3) (.a (.m 4 B0) B2)) rfl r h2 h3) q.2.2.2⟩
theorem Xv(h1:0<=x)(h2:a<=900)(h3:b<=900)(h4:x<=900)(h5:y<=900):0<=(max (max ((a:Int)-1) x) (max ((b:Int)-1) y))/\(max (max ((a:Int)-1) x) (max ((b:Int)-1) y))<=900:=⟨cz [(a:Int),x,(b:Int),y,(max (max ((a:Int)-1) x) (max ((b:Int)-1) y)),(max ((a:Int)-1) x),(max ((b:Int)-1) y)] [L' (.n 0) B1,L' B5 B4,L' B1 B5] (L' (.n 0) B4) rfl h1 (kj (max ((a:Int)-1) x) (max ((b:Int)-1) y)) (Int.le_max_right ((a:Int)-1) x),Int.max_le.2 ⟨Int.max_le.2 ⟨cz [(a:Int),x,(b:Int),y] [L' B0 (.n 900)] (L' (.s B0 (.n 1)) (.n 900)) rfl (bf.2 h2),cz [(a:Int),x,(b:Int),y] [L' B1 (.n 900)] (L' B1 (.n 900)) rfl h4⟩,Int.max_le.2 ⟨cz [(a:Int),x,(b:Int),y] [L' B2 (.n 900)] (L' (.s B2 (.n 1)) (.n 900)) rfl (bf.2 h3),cz [(a:Int),x,(b:Int),y] [L' B3 (.n 900)] (L' B3 (.n 900)) rfl h5⟩⟩⟩
theorem Xw(h1:1<=z)(h2:1<=v)(h3:1<=p)(h4:1<=r):x+y<x+z+y/\(2*u+y<2*(u+v)+y/\(3*w+y<3*(w+p)+y/\4*q+y<4*(q+r)+y)):=⟨cz [x,y,z,u,v,w,p,q,r] [L' (.n 1) B2] (K' (.a B0 B1) (.a (.a B0 B2) B1)) rfl h1,⟨cz [x,y,z,u,v,w,p,q,r] [⟨0,2,.n 1,B4⟩] (K' (.a (.m 2 B3) B1) (.a (.m 2 (.a B3 B4)) B1)) rfl h2,⟨cz [x,y,z,u,v,w,p,q,r] [⟨0,3,.n 1,B6⟩] (K' (.a (.m 3 B5) B1) (.a (.m 3 (.a B5 B6)) B1)) rfl h3,cz [x,y,z,u,v,w,p,q,r] [⟨0,4,.n 1,B8⟩] (K' (.a (.m 4 B7) B1) (.a (.m 4 (.a B7 B8)) B1)) rfl h4⟩⟩⟩
theorem Xx(h1:a<=2^40):(((((-2^63)<=(a:Int)-1/\(a:Int)-1<2^63)/\((-2^63)<=(-1)/\(-1)<2^63))/\((-2^63)<=(-1)/\(-1)<2^63))/\((-2^63)<=(a:Int)/\(a:Int)<2^63))/\((a:Int)=0\/((-2^63)<=(-1)+((-1)+1)/\(-1)+((-1)+1)<2^63)):=by lia
theorem Xy:x+2*y+3*z+4*u=x+1*y+1*z+1*u+(y+2*z+3*u)/\(x+1*y+2*z+2*u=x+1*y+1*z+1*u+(z+u)/\x+1*y+1*z+2*u=x+1*y+1*z+1*u+u):=⟨bG (cz [x,y,z,u] [] (L' (.a (.a (.a B0 (.m 2 B1)) (.m 3 B2)) (.m 4 B3)) (.a (.a (.a (.a B0 (.m 1 B1)) (.m 1 B2)) (.m 1 B3)) (.a (.a B1 (.m 2 B2)) (.m 3 B3)))) rfl) (cz [x,y,z,u] [] (L' (.a (.a (.a (.a B0 (.m 1 B1)) (.m 1 B2)) (.m 1 B3)) (.a (.a B1 (.m 2 B2)) (.m 3 B3))) (.a (.a (.a B0 (.m 2 B1)) (.m 3 B2)) (.m 4 B3))) rfl),⟨bG (cz [x,y,z,u] [] (L' (.a (.a (.a B0 (.m 1 B1)) (.m 2 B2)) (.m 2 B3)) (.a (.a (.a (.a B0 (.m 1 B1)) (.m 1 B2)) (.m 1 B3)) (.a B2 B3))) rfl) (cz [x,y,z,u] [] (L' (.a (.a (.a (.a B0 (.m 1 B1)) (.m 1 B2)) (.m 1 B3)) (.a B2 B3)) (.a (.a (.a B0 (.m 1 B1)) (.m 2 B2)) (.m 2 B3))) rfl),bG (cz [x,y,z,u] [] (L' (.a (.a (.a B0 (.m 1 B1)) (.m 1 B2)) (.m 2 B3)) (.a (.a (.a (.a B0 (.m 1 B1)) (.m 1 B2)) (.m 1 B3)) B3)) rfl) (cz [x,y,z,u] [] (L' (.a (.a (.a (.a B0 (.m 1 B1)) (.m 1 B2)) (.m 1 B3)) B3) (.a (.a (.a B0 (.m 1 B1)) (.m 1 B2)) (.m 2 B3))) rfl)⟩⟩
theorem Xz(h1:a<=3)(h2:c<=3)(h3:e<=3)(h4:g<=3)(h5:j<=3)(h6:l<=3)(h7:b<=8)(h8:d<=8)(h9:f<=8)(h10:i<=8)(Jx:k<=8)(h12:m<=8):0+1+(a+(0+1+1+1+1)+(b+(0+1)+(c+(0+1+1+1+1)+(d+(0+1)+(e+(0+1+1+1+1)+(f+(0+1)+(g+(0+1+1+1+1)+(i+(0+1)+(j+(0+1+1+1+1)+(k+(0+1)+(l+(0+1+1+1+1)+(m+1)+1)+1)+1)+1)+1)+1)+1)+1)+1)+1)+1)<=1000:=cn [a,b,c,d,e,f,g,i,j,k,l,m] [L A0 (.n 3),L A2 (.n 3),L A4 (.n 3),L A6 (.n 3),L A8 (.n 3),L ZC (.n 3),L A1 (.n 8),L A3 (.n 8),L A5 (.n 8),L A7 (.n 8),L A9 (.n 8),L ZD (.n 8)] (L (.a (.a (.n 0) (.n 1)) (.a (.a (.a A0 (.a (.a (.a (.a (.n 0) (.n 1)) (.n 1)) (.n 1)) (.n 1))) (.a (.a (.a A1 (.a (.n 0) (.n 1))) (.a (.a (.a A2 (.a (.a (.a (.a (.n 0) (.n 1)) (.n 1)) (.n 1)) (.n 1))) (.a (.a (.a A3 (.a (.n 0) (.n 1))) (.a (.a (.a A4 (.a (.a (.a (.a (.n 0) (.n 1)) (.n 1)) (.n 1)) (.n 1))) (.a (.a (.a A5 (.a (.n 0) (.n 1))) (.a (.a (.a A6 (.a (.a (.a (.a (.n 0) (.n 1)) (.n 1)) (.n 1)) (.n 1))) (.a (.a (.a A7 (.a (.n 0) (.n 1))) (.a (.a (.a A8 (.a (.a (.a (.a (.n 0) (.n 1)) (.n 1)) (.n 1)) (.n 1))) (.a (.a (.a A9 (.a (.n 0) (.n 1))) (.a (.a (.a ZC (.a (.a (.a (.a (.n 0) (.n 1)) (.n 1)) (.n 1)) (.n 1))) (.a ZD (.n 1))) (.n 1))) (.n 1))) (.n 1))) (.n 1))) (.n 1))) (.n 1))) (.n 1))) (.n 1))) (.n 1))) (.n 1))) (.n 1))) (.n 1000)) rfl h1 h2 h3 h4 h5 h6 h7 h8 h9 h10 Jx h12
end
end Mine
end
section
open PySem PySem.W PyProof.Rows
namespace Mine
structure WS where
 raw:Str
 n:Int
 nt:Int
 cnt:List Int
 trail:Int
 simple:Bool
theorem tB{α:Type}{l:List α}(h:l.length=1): ∃v,l=[v]:=by
 obtain⟨a,l1,rfl,h1⟩:=AJ h
 exact⟨a,by rw[List.length_eq_zero_iff.mp h1]⟩
theorem mS{α:Type}{l:List α}(h:l.length=2): ∃v w,l=[v,w]:=by
 obtain⟨a,l1,rfl,h1⟩:=AJ h
 obtain⟨b,rfl⟩:=tB h1
 exact⟨a,b,rfl⟩
theorem BZ{α:Type}{l:List α}(h:l.length=3): ∃u v w,l=[u,v,w]:=by
 obtain⟨a,l1,rfl,h1⟩:=AJ h
 obtain⟨b,c,rfl⟩:=mS h1
 exact⟨a,b,c,rfl⟩
inductive D where
 |none
 |bool (b:Bool)
 |int (i:Int)
 |str (s:Str)
 |addr (a:Addr)
 |list (xs:List D)
 |tup (xs:List D)
 |ws (w:WS)
noncomputable def D.sc:D->Bool
 | .none| .bool _| .int _| .str _| .addr _=>true
 |_=>false
noncomputable abbrev DL(l:List Int):D:=.list (l.map .int)
noncomputable abbrev DT(l:List Int):D:=.tup (l.map .int)
noncomputable def pO(wc:Addr)(h:Heap)(a dx:Addr)(m:Str->Option Value):Prop:=h.get? a=some (instObj wc dx)/\ h.Ns dx m
noncomputable def gj:List Str:=["raw","n","nt","norm","is_simple"]
structure XA(h:Heap)(P:Addr->Prop)(v:Value)(R:(Addr->Prop)->List Value->Prop)(a:Addr)(vs:Array Value):Prop where
 e:v= .ref a
 p:P a
 l:PlainL h a vs
 sz:vs.size<=sizeLine
 r:R (λb=>P b/\ b≠a) vs.toList
structure XC(h:Heap)(P:Addr->Prop)(v:Value)(R:(Addr->Prop)->List Value->Prop)(a:Addr)(vs:Array Value):Prop where
 e:v= .ref a
 p:P a
 l:IsTup h a vs
 sz:vs.size<=sizeLine
 r:R (λb=>P b/\ b≠a) vs.toList
structure XD(wc:Addr)(h:Heap)(P:Addr->Prop)(v:Value)(w:WS)(a dx:Addr)(m:Str->Option Value)(tu tc:Addr)(t1 t2 t3 t4:Tok)(vc:Array Value):Prop where
 e:v= .ref a
 pa:P a
 pd:P dx
 hi:pO wc h a dx m
 hm: ∀x,x∉gj->m x=none
 m1:m "raw" =some (.str w.raw t1)
 EE:w.raw.length<=sizeLine
 m2:m "n" =some (.int w.n t2)
 m3:m "nt" =some (.int w.nt t3)
 m4:m "is_simple" =some (.bool w.simple)
 m5:m "norm" =some (.ref tu)
 pu:P tu
 pc:P tc
 it:IsTup h tu #[.ref tc,.int w.trail t4]
 ic:IsTup h tc vc
 sz:vc.size<=sizeLine
 iv:IntsAre vc.toList w.cnt
mutual
noncomputable def Rep(wc:Addr)(h:Heap)(P:Addr->Prop)(v:Value):D->Prop
 | .none=>v= .none
 | .bool b=>v= .bool b
 | .int i=>∃t,v= .int i t
 | .str x=>(∃t,v= .str x t)/\ x.length<=sizeLine
 | .addr a=>v= .ref a
 | .list ds=>∃a vs,XA h P v (λQ l=>aU wc h Q l ds) a vs
 | .tup ds=>∃a vs,XC h P v (λQ l=>aU wc h Q l ds) a vs
 | .ws w=>∃a dx m tu tc t1 t2 t3 t4 vc,XD wc h P v w a dx m tu tc t1 t2 t3 t4 vc
noncomputable def aU(wc:Addr)(h:Heap)(P:Addr->Prop)(vs:List Value):List D->Prop
 |[]=>vs=[]
 |d::ds=>∃v r,vs=v::r/\ Rep wc h P v d/\ aU wc h P r ds
end
theorem iY{h h':Heap}{a:Addr}{vs:Array Value}(x:IsTup h a vs)(k: ∀o,h.get? a=some o->h'.get? a=some o):IsTup h' a vs:=by
 obtain⟨o,ho,r⟩:=x;exact⟨o,k _ ho,r⟩
theorem cT{h h':Heap}{a:Addr}{m:Str->Option Value}(x:h.Ns a m)(k: ∀o,h.get? a=some o->h'.get? a=some o):h'.Ns a m:=by
 obtain⟨o,es,ep,ho,r⟩:=x;exact⟨o,es,ep,k _ ho,r⟩
mutual
theorem Rep.nN{wc:Addr}{h h':Heap}: ∀{d:D} {P Q:Addr->Prop} {v:Value},Rep wc h P v d->(∀a o,P a->h.get? a=some o->Q a)->(∀a o,P a->h.get? a=some o->h'.get? a=some o)->Rep wc h' Q v d
 | .none,_,_,_,x,_,_=>x
 | .bool _,_,_,_,x,_,_=>x
 | .int _,_,_,_,x,_,_=>x
 | .str _,_,_,_,x,_,_=>x
 | .addr _,_,_,_,x,_,_=>x
 | .list ds,P,Q,v,x,q,k=>by
  obtain⟨a,vs,rfl,pa,hl,hs,hr⟩:=x
  obtain⟨o,_,ho,_⟩:=id hl
  exact⟨a,vs,rfl,q _ _ pa ho,hl.at (λo e=>k _ o pa e),hs,aU.nN hr (λb o pb e=>⟨q _ o pb.1 e,pb.2⟩) λb o pb e=>k _ o pb.1 e⟩
 | .tup ds,P,Q,v,x,q,k=>by
  obtain⟨a,vs,rfl,pa,hl,hs,hr⟩:=x
  obtain⟨o,ho,_⟩:=id hl
  exact⟨a,vs,rfl,q _ _ pa ho,iY hl (λo e=>k _ o pa e),hs,aU.nN hr (λb o pb e=>⟨q _ o pb.1 e,pb.2⟩) λb o pb e=>k _ o pb.1 e⟩
 | .ws w,P,Q,v,x,q,k=>by
  refine bk λG hG=>?_
  obtain⟨a,dx,m,tu,tc,t1,t2,t3,t4,vc,rfl,pa,pd,⟨hi,hn⟩,hm,m1,EE,m2,m3,m4,m5,pu,pc,it,ic,hs,hv⟩:=x
  obtain⟨_,_,_,hd,_⟩:=id hn
  obtain⟨_,hu,_⟩:=id it
  obtain⟨_,hc,_⟩:=id ic
  refine hG ?_;clear hG G
  exact⟨a,dx,m,tu,tc,t1,t2,t3,t4,vc,rfl,q _ _ pa hi,q _ _ pd hd,⟨k _ _ pa hi,cT hn λo e=>k _ o pd e⟩,hm,m1,EE,m2,m3,m4,m5,q _ _ pu hu,q _ _ pc hc,iY it (λo e=>k _ o pu e),iY ic (λo e=>k _ o pc e),hs,hv⟩
theorem aU.nN{wc:Addr}{h h':Heap}: ∀{ds:List D} {P Q:Addr->Prop} {vs:List Value},aU wc h P vs ds->(∀a o,P a->h.get? a=some o->Q a)->(∀a o,P a->h.get? a=some o->h'.get? a=some o)->aU wc h' Q vs ds
 |[],_,_,_,x,_,_=>x
 |d::ds,P,Q,vs,x,q,k=>by
  obtain⟨v,r,rfl,a,b⟩:=x
  exact⟨v,r,rfl,Rep.nN a q k,aU.nN b q k⟩
end
theorem Rep.mono{wc:Addr}{h h':Heap}{d:D}{P Q:Addr->Prop}{v:Value}(x:Rep wc h P v d)(q: ∀a,P a->Q a)(k: ∀a o,P a->h.get? a=some o->h'.get? a=some o):Rep wc h' Q v d:=x.nN (λa _ p _=>q a p) k
theorem aU.mono{wc:Addr}{h h':Heap}{ds:List D}{P Q:Addr->Prop}{vs:List Value}(x:aU wc h P vs ds)(q: ∀a,P a->Q a)(k: ∀a o,P a->h.get? a=some o->h'.get? a=some o):aU wc h' Q vs ds:=aU.nN x (λa _ p _=>q a p) k
theorem Rep.alive{wc:Addr}{h:Heap}{d:D}{P:Addr->Prop}{v:Value}(x:Rep wc h P v d):Rep wc h (λa=>P a/\ (h.get? a).isSome=true) v d:=x.nN (λ_ _ p e=>⟨p,by rw[e];rfl⟩) λ_ _ _ e=>e
theorem aU.alive{wc:Addr}{h:Heap}{ds:List D}{P:Addr->Prop}{vs:List Value}(x:aU wc h P vs ds):aU wc h (λa=>P a/\ (h.get? a).isSome=true) vs ds:=aU.nN x (λ_ _ p e=>⟨p,by rw[e];rfl⟩) λ_ _ _ e=>e
theorem Rep.ext{wc:Addr}{h h':Heap}{d:D}{P:Addr->Prop}{v:Value}(x:Rep wc h P v d)(k: ∀b o,h.get? b=some o->h'.get? b=some o):Rep wc h' P v d:=x.mono (λ_ p=>p) λa o _ e=>k a o e
theorem Rep.any{wc:Addr}{h:Heap}{d:D}{P:Addr->Prop}{v:Value}(x:Rep wc h P v d):Rep wc h (λ_=>True) v d:=x.mono (λ_ _=>trivial) λ_ _ _ e=>e
theorem Rep.dH{wc:Addr}{h h':Heap}{d:D}{P Q:Addr->Prop}{v:Value}(x:Rep wc h P v d)(hd:d.sc=true):Rep wc h' Q v d:=by
 cases d<;>first|exact x|cases hd
theorem aU.length{wc:Addr}{h:Heap}: ∀{ds:List D} {P:Addr->Prop} {vs:List Value},aU wc h P vs ds->vs.length=ds.length:=λ{ds}=>by
 induction ds with
 |nil=>intro P vs x;subst x;rfl
 |cons d ds ih=>
  intro P vs x
  obtain⟨v,r,rfl,_,b⟩:=x
  exact congrArg (· +1) (ih b)
theorem aU.get{wc:Addr}{h:Heap}: ∀{ds:List D} {P:Addr->Prop} {vs:List Value},aU wc h P vs ds-> ∀{i:Nat} {d:D},ds[i]? =some d-> ∃v,vs[i]? =some v/\ Rep wc h P v d:=λ{ds}=>by
 induction ds with
 |nil=>intro P vs x i d e;cases e
 |cons d ds ih=>
  intro P vs x i d' e
  obtain⟨v,r,rfl,a,b⟩:=x
  cases i with
  |zero=>injection e with e;subst e;exact⟨v,rfl,a⟩
  |succ i=>exact ih b (i:=i) e
theorem aU.append{wc:Addr}{h:Heap}: ∀{ds ds':List D} {P:Addr->Prop} {vs tC:List Value},aU wc h P vs ds->aU wc h P tC ds'->aU wc h P (vs++tC) (ds++ds'):=λ{ds}=>by
 induction ds with
 |nil=>intro ds' P vs tC x y;subst x;exact y
 |cons d ds ih=>
  intro ds' P vs tC x y
  obtain⟨v,r,rfl,a,b⟩:=x
  exact⟨v,_,rfl,a,ih b y⟩
theorem aU.toInts{wc:Addr}{h:Heap}{P:Addr->Prop}: ∀{l:List Int} {vs:List Value},aU wc h P vs (l.map D.int)->IntsAre vs l:=by
 intro l0
 induction l0 with
 |nil=>
  intro vs x
  subst x;exact .nil
 |cons i l ih=>
  intro vs x
  obtain⟨v,r,rfl,⟨t,rfl⟩,b⟩:=x
  exact IntsAre.cons _ _ (ih b)
theorem aU.ofInts{wc:Addr}{h:Heap}{P:Addr->Prop}: ∀{l:List Int} {vs:List Value},IntsAre vs l->aU wc h P vs (l.map D.int):=λh=>by
 induction h with
 |nil=>exact rfl
 |cons _ _ _ ih=>exact⟨_,_,rfl,⟨_,rfl⟩,ih⟩
noncomputable abbrev Sg:=List (Str×Bool×D)
noncomputable def Sg.get:Sg->Str->Option (Bool×D)
 |[],_=>none
 |(y,f,d)::r,x=>if x=y then some (f,d) else Sg.get r x
theorem Sg.bO{n x:Str}{f:Bool}{d:D}{r:Sg}{q:Bool×D}(h:Sg.get ((n,f,d)::r) x=some q):(x=n/\ (f,d)=q) \/(x≠n/\ Sg.get r x=some q):=by
 by_cases e:x=n
 · exact .inl ⟨e,Option.some.inj ((af e).symm.trans h)⟩
 · exact .inr ⟨e,(aa e).symm.trans h⟩
theorem eY{α:Type}{n x:Str}{v c:α}{r:List (Str×α)}(h:List.lookup x ((n,v)::r)=some c):v=c \/r.lookup x=some c:=by
 rw[ff] at h
 by_cases e:(x==n)=true
 · rw[e] at h;exact .inl (Option.some.inj h)
 · rw[Bool.eq_false_iff.mpr e] at h;exact .inr h
noncomputable def Sg.set:Sg->Str->Bool->D->Sg
 |[],x,f,d=>[(x,f,d)]
 |(y,g,e)::r,x,f,d=>if x=y then(x,f,d)::r else(y,g,e)::Sg.set r x f d
theorem Sg.get_set(x z:Str)(f:Bool)(d:D): ∀σ:Sg,(σ.set x f d).get z=if z=x then some (f,d) else σ.get z
 |[]=>rfl
 |(y,g,e)::r=>by
  unfold Sg.set
  by_cases h:x=y
  · subst h
    rw[af rfl]
    unfold Sg.get
    by_cases hz:z=x
    · rw[af hz,af hz]
    · rw[aa hz,aa hz,aa hz]
  · rw[aa h]
    unfold Sg.get
    by_cases hz:z=y
    · rw[af hz,af hz]
      have:z≠x:=λq=>h (q.symm.trans hz)
      rw[aa this]
    · rw[aa hz,aa hz]
      exact Sg.get_set x z f d r
structure Cx where
 prog:Program
 w:World
 wc:Addr
 B:Heap->Prop
 keeps: ∀h h',B h->(∀b o,h.get? b=some o->h'.get? b=some o)->B h'
 nolimit: ∀h,B h->h.NoLimit
noncomputable def bF(g g':Array GenState):Prop:=g.size<=g'.size/\ (∀i,i<g.size->g'[i]? =g[i]?)/\ ((∀x∈g,x.bare=true)-> ∀x∈g',x.bare=true)
theorem bF.rfl'{g:Array GenState}:bF g g:=⟨aR _,λ_ _=>rfl,λh=>h⟩
theorem bF.trans{a b c:Array GenState}(x:bF a b)(y:bF b c):bF a c:=
 ⟨aX x.1 y.1,λi hi=>(y.2.1 i (Nat.lt_of_lt_of_le hi x.1)).trans (x.2.1 i hi),λh=>y.2.2 (x.2.2 h)⟩
structure aO(own:List Addr)(s s':Shared):Prop where
 heap: ∀b o,b∉own->s.heap.get? b=some o->s'.heap.get? b=some o
 os:s'.os=s.os
 gens:bF s.gens s'.gens
noncomputable abbrev cG(s s':Shared):Prop:=aO [] s s'
theorem cG.get{s s':Shared}(x:cG s s'){b:Addr}{o:Obj}(e:s.heap.get? b=some o):s'.heap.get? b=some o:=x.heap b o (ai) e
theorem aO.refl(own:List Addr)(s:Shared):aO own s s:=⟨λ_ _ _ e=>e,rfl,bF.rfl'⟩
theorem aO.trans{own own':List Addr}{a b c:Shared}(x:aO own a b)(y:aO own' b c)(h: ∀z∈own',z∈own \/a.heap.get? z=none):aO own a c:=
 ⟨λz o hz e=>y.heap z o (λq=>(h z q).elim hz λn=>by cases (n).symm.trans e) (x.heap z o hz e),y.os.trans x.os,x.gens.trans y.gens⟩
theorem cG.trans{a b c:Shared}(x:cG a b)(y:cG b c):cG a c:=aO.trans x y λ_ h=>nomatch h
theorem cG.mk'{s:Shared}{h':Heap}{t:Nat}(k: ∀b o,s.heap.get? b=some o->h'.get? b=some o):cG s {s with heap:=h',toks:=t}:=⟨λb o _ e=>k b o e,rfl,bF.rfl'⟩
theorem cG.tok(s:Shared)(t:Nat):cG s {s with toks:=t}:=cG.mk' (s:=s) (h':=s.heap) (λ_ _ e=>e)
theorem cG.none{s s':Shared}(x:cG s s'){b:Addr}(e:s'.heap.get? b=none):s.heap.get? b=none:=by
 cases q:s.heap.get? b with
 |none=>rfl
 |some o=>cases (x.get q).symm.trans e
theorem cG.push(s:Shared)(o:Obj)(t:Nat):cG s {s with heap:=s.heap.push o,toks:=t}:=cG.mk' (λb o' e=>dh o e)
noncomputable def bH(A:Around)(k:Nat):Prop:=A.handled=none/\ A.depth+2*k+2<recursionLimit/\ A.units+20*k+40<cLine
theorem bH.le{A:Around}{k k':Nat}(r:bH A k)(h:k'<=k):bH A k':=⟨r.1,by have:=r.2.1;exact VZ this h,by have:=r.2.2;exact Wf this h⟩
theorem bH.deeper{A:Around}{k:Nat}(r:bH A (k+1))(env:Env):bH (A.deeper env) k:=⟨r.1,by have:=r.2.1;show A.depth+1+2*k+2<_;exact KI this,by have:=r.2.2;show A.units+3+20*k+40<_;exact Wg this⟩
theorem bH.lt{A:Around}{k:Nat}(r:bH A k):A.depth<recursionLimit:=by have:=r.2.1;exact So this
theorem bH.units{A:Around}{k:Nat}(r:bH A k):A.units+40<cLine:=by have:=r.2.2;exact Uo this
noncomputable def cg(env:Env)(h:Heap)(x:Str)(v:Value):Prop:=
 (env.kindOf x=some .local/\ ∃m,h.Ns env.locals m/\ m x=some v) \/((env.kindOf x=some .cell \/(env.kindOf x=some .free/\ (x==("__classdict__" :Str))=false))/\ ∃c,env.cells.lookup x=some c/\ h.IsCell c (some v))
structure Ow where
 av:List Addr
 mu:List Addr
structure KU(wc:Addr)(h:Heap)(own:Ow)(v:Value)(d:D)(a:Addr)(vs:Array Value)(ds:List D):Prop where
 e:v= .ref a
 mu:a∈own.mu
 av:a∈own.av
 ed:d= .list ds
 l:PlainL h a vs
 sz:vs.size<=sizeLine
 rp:aU wc h (λb=>b∉own.av) vs.toList ds
noncomputable def Slot(wc:Addr)(h:Heap)(own:Ow):Bool->Value->D->Prop
 |false,v,d=>Rep wc h (λa=>a∉own.av) v d
 |true,v,d=>∃a vs ds,KU wc h own v d a vs ds
structure St(C:Cx)(sc:Scope)(ro:List Str)(env:Env)(h₀:Heap)(σ:Sg)(own:Ow)(s:Shared):Prop where
 scope:env.scope=sc
 kind:sc.kind= .function
 glob:env.globals=mainGlobals
 blt:env.builtins=builtinsNs
 base:C.B h₀
 keep: ∀b o,h₀.get? b=some o->s.heap.get? b=some o
 fresh: ∀b∈own.av,h₀.get? b=none
 alive: ∀b∈own.av,(s.heap.get? b).isSome=true
 ns: ∃m,s.heap.Ns env.locals m
 eN:env.locals∈own.mu
 sub: ∀b∈own.mu,b∈own.av
 cells: ∀x,env.kindOf x=some .cell->x∉ro-> ∃c iK,env.cells.lookup x=some c/\ s.heap.IsCell c iK/\ c∈own.mu
 gb: ∀x y c,env.kindOf x=some .cell->x∉ro->(env.kindOf y=some .cell \/env.kindOf y=some .free)->env.cells.lookup x=some c->env.cells.lookup y=some c->x=y
 free: ∀x,env.kindOf x=some .free->x∈ro
 pe: ∀x c,x∈ro->env.cells.lookup x=some c->(h₀.get? c).isSome=true
 vars: ∀x f d,σ.get x=some (f,d)-> ∃v,cg env s.heap x v/\ Slot C.wc s.heap own f v d
 inj: ∀x y dx dy a,σ.get x=some (true,dx)->σ.get y=some (true,dy)->cg env s.heap x (.ref a)->cg env s.heap y (.ref a)->x=y
theorem br{h h':Heap}{c:Addr}{v:Option Value}(x:h.IsCell c v)(k: ∀o,h.get? c=some o->h'.get? c=some o):h'.IsCell c v:=by
 obtain⟨o,ho,r⟩:=x;exact⟨o,k _ ho,r⟩
theorem cg.mono{env:Env}{h h':Heap}{x:Str}{v:Value}(y:cg env h x v)(k: ∀b o,h.get? b=some o->h'.get? b=some o):cg env h' x v:=
 y.imp (λ⟨a,m,n,e⟩=>⟨a,m,cT n λo q=>k _ o q,e⟩) λ⟨a,c,e,n⟩=>⟨a,c,e,br n λo q=>k _ o q⟩
theorem B_{h:Heap}{a:Addr}{m m':Str->Option Value}(x:h.Ns a m)(y:h.Ns a m'):m=m':=by
 refine bk λG hG=>?_
 obtain⟨o,es,ep,h1,h2,_,h3⟩:=x
 obtain⟨o',es',ep',kh,nO,_,KV⟩:=y
 refine hG ?_;clear hG G
 rw[h1] at kh;injection kh with kh;subst kh
 rw[h2] at nO;injection nO with nO;subst nO
 funext n;rw[<-h3,<-KV]
theorem yd{h:Heap}{a:Addr}{v v':Option Value}(x:h.IsCell a v)(y:h.IsCell a v'):v=v':=by
 obtain⟨o,h1,h2⟩:=x
 obtain⟨o',kh,nO⟩:=y
 rw[h1] at kh;injection kh with kh;subst kh
 rw[h2] at nO;cases nO;rfl
theorem cg.det{env:Env}{h:Heap}{x:Str}{v v':Value}(a:cg env h x v)(b:cg env h x v'):v=v':=by
 rcases a with⟨ka,m,n,e⟩|⟨ka,c,e,n⟩<;>rcases b with⟨kb,m',n',e'⟩|⟨kb,c',e',n'⟩
 · cases B_ n n';rw[e] at e';exact Option.some.inj e'
 · rw[ka] at kb;rcases kb with q|⟨q,_⟩<;>cases q
 · rw[kb] at ka;rcases ka with q|⟨q,_⟩<;>cases q
 · rw[e] at e';injection e' with e';subst e';exact Option.some.inj (yd n n')
theorem Slot.mono{wc:Addr}{h h':Heap}{own:Ow}{f:Bool}{v:Value}{d:D}(x:Slot wc h own f v d)(k: ∀b o,h.get? b=some o->h'.get? b=some o):Slot wc h' own f v d:=by
 cases f with
 |false=>exact Rep.ext x k
 |true=>
  refine bk λG hG=>?_
  obtain⟨a,vs,ds,e1,e2,tR,e3,e4,e5,e6⟩:=x
  refine hG ?_;clear hG G
  exact⟨a,vs,ds,e1,e2,tR,e3,e4.at (λo e=>k _ o e),e5,e6.mono (λ_ p=>p) λb o _ e=>k b o e⟩
theorem St.cX{C:Cx}{sc:Scope}{ro:List Str}{env:Env}{h₀:Heap}{σ:Sg}{own:Ow}{s s':Shared}(x:St C sc ro env h₀ σ own s)(a:cG s s'):St C sc ro env h₀ σ own s' where
 scope:=x.scope
 kind:=x.kind
 glob:=x.glob
 blt:=x.blt
 base:=x.base
 keep:=λb o e=>a.get (x.keep b o e)
 fresh:=x.fresh
 alive:=λb hb=>by
  obtain⟨o,ho⟩:=c_.mp (x.alive b hb)
  rw[a.get ho];rfl
 ns:=by obtain⟨m,n⟩:=x.ns;exact⟨m,cT n λo e=>a.get e⟩
 eN:=x.eN
 sub:=x.sub
 cells:=λy hk hr=>by obtain⟨c,iK,e,i,m⟩:=x.cells y hk hr;exact⟨c,iK,e,br i λo e=>a.get e,m⟩
 gb:=x.gb
 free:=x.free
 pe:=x.pe
 vars:=λy f d e=>by obtain⟨v,va,sl⟩:=x.vars y f d e;exact⟨v,va.mono λb o e=>a.get e,sl.mono λb o e=>a.get e⟩
 inj:=λy z dy dz b e1 e2 v1 v2=>by
  obtain⟨v,va,_⟩:=x.vars y _ _ e1
  obtain⟨v',lV,_⟩:=x.vars z _ _ e2
  have k: ∀b o,s.heap.get? b=some o->s'.heap.get? b=some o:=λb o e=>a.get e
  have q1:=(va.mono k).det v1
  have q2:=(lV.mono k).det v2
  subst q1;subst q2
  exact x.inj y z dy dz b e1 e2 va lV
inductive Md where
 |any|clean|fresh
noncomputable def Md.ok:Md->Ow->Heap->Addr->Prop
 | .any,_,_,_=>True
 | .clean,own,_,a=>a∉own.av
 | .fresh,_,h,a=>h.get? a=none
section
variable(C:Cx)(sc:Scope)(ro:List Str)(k:Nat)
noncomputable def Ev(σ:Sg)(e:Expr)(md:Md)(d:D):Prop:=
 ∀(A:Around) (env:Env) (h₀:Heap) (own:Ow) (s:Shared) (Q:Value->Shared->Prop),bH A k->St C sc ro env h₀ σ own s->
  (∀v s',cG s s'->Rep C.wc s'.heap (md.ok own s.heap) v d->Q v s')->wpAny (model C.prog C.w) A (eval e env) Q (λ_ _=>False) s
noncomputable def Te(σ:Sg)(e:Expr)(b:Bool):Prop:=
 ∀(A:Around) (env:Env) (h₀:Heap) (own:Ow) (s:Shared) (Q:Bool->Shared->Prop),bH A k->St C sc ro env h₀ σ own s->
  (∀s',cG s s'->Q b s')->wpAny (model C.prog C.w) A (isTrue e env (eval e env)) Q (λ_ _=>False) s
inductive Fl where
 |next|brk|cont
 |ret (d:D)
noncomputable def ye(wc:Addr)(h₀ h:Heap):Fl->Flow->Prop
 | .next,f=>f= .next
 | .brk,f=>f= .brk
 | .cont,f=>f= .cont
 | .ret d,f=>∃v,f= .ret v/\ Rep wc h (λa=>h₀.get? a=none) v d
noncomputable def kM(σ:Sg)(t:Env->Sem Flow)(P:Sg->Fl->Prop):Prop:=
 ∀(A:Around) (env:Env) (h₀:Heap) (own:Ow) (s:Shared) (Q:Flow->Shared->Prop),bH A k->St C sc ro env h₀ σ own s->
  (∀f fl s' aq own',aO own.mu s s'->(∀b∈own.av,b∉own.mu->b∈own'.av)->(∀b∈own'.mu,b∈own.mu \/s.heap.get? b=none)->St C sc ro env h₀ aq own' s'->ye C.wc h₀ s'.heap fl f->P aq fl->Q f s')->
  wpAny (model C.prog C.w) A (t env) Q (λ_ _=>False) s
noncomputable abbrev cH(σ:Sg)(st:Stmt)(P:Sg->Fl->Prop):Prop:=kM C sc ro k σ (exec st) P
noncomputable abbrev Ex(σ:Sg)(ss:List Stmt)(P:Sg->Fl->Prop):Prop:=kM C sc ro k σ (execs ss) P
noncomputable def Fn(f:Value)(ds:List D)(d:D):Prop:=
 ∀(A:Around) (s:Shared) (vs:List Value) (Q:Value->Shared->Prop),bH A k->C.B s.heap->aU C.wc s.heap (λ_=>True) vs ds->
  (∀v s',cG s s'->Rep C.wc s'.heap (λa=>s.heap.get? a=none) v d->Q v s')->wpAny (model C.prog C.w) A (call f vs) Q (λ_ _=>False) s
end
section
variable{C:Cx}{sc:Scope}{ro:List Str}{k:Nat}{σ:Sg}{P:Sg->Fl->Prop}
theorem Ev.up{e:Expr}{md AK:Md}{d:D}(x:Ev C sc ro k σ e md d)(h:d.sc=true \/AK= .any):Ev C sc ro k σ e AK d:=
 λA env h₀ own s Q r S q=>x A env h₀ own s Q r S λv s' a rp=>q v s' a (h.elim (λhd=>rp.dH hd) λe=>by rw[e];exact rp.any)
theorem Ev.rL{e:Expr}{d:D}(x:Ev C sc ro k σ e .fresh d):Ev C sc ro k σ e .clean d:=
 λA env h₀ own s Q r S q=>x A env h₀ own s Q r S λv s' a rp=>q v s' a (rp.mono (λb hb hm=>by
  have:=S.alive b hm
  rw[show s.heap.get? b=none from hb] at this;cases this) λ_ _ _ e=>e)
theorem Ex.nil(h:P σ .next):Ex C sc ro k σ [] P:=λA env h₀ own s Q r S q=>
 lS (q _ .next s σ own (aO.refl _ _) (λ_ h _=>h) (λ_ h=>.inl h) S rfl h)
theorem Ex.cons{st:Stmt}{rest:List Stmt}{P₁:Sg->Fl->Prop}(h:cH C sc ro k σ st P₁)(hn: ∀aq,P₁ aq .next->Ex C sc ro k aq rest P)(ho: ∀aq f,P₁ aq f->f≠.next->P aq f):Ex C sc ro k σ (st::rest) P:=by
 intro A env h₀ own s Q r S q
 refine eX (h A env h₀ own s _ r S λf fl s' aq own' a o1 o2 S' fi p=>?_)
 cases fl with
 |next=>
  subst fi
  exact hn aq p A env h₀ own' s' _ r S' λf fl iJ nP nQ a' HH BR EO HJ p'=>q f fl iJ nP nQ (a.trans a' λz hz=>o2 z hz) (λb hb hm=>HH b (o1 b hb hm) λq=>(o2 b q).elim hm λn=>by have:=S.alive b hb;rw[n] at this;cases this) (λb hb=>(BR b hb).elim (λh=>o2 b h) λh=>by
   by_cases hm:b∈own.mu
   · exact .inl hm
   · refine .inr ?_
     cases e:s.heap.get? b with
     |none=>rfl
     |some o=>cases (a.heap b o hm e).symm.trans h) EO HJ p'
 |brk=>subst fi;exact q _ .brk s' aq own' a o1 o2 S' rfl (ho _ _ p (by simp))
 |cont=>subst fi;exact q _ .cont s' aq own' a o1 o2 S' rfl (ho _ _ p (by simp))
 |ret d=>
  obtain⟨v,rfl,rp⟩:=fi
  exact q _ (.ret d) s' aq own' a o1 o2 S' ⟨v,rfl,rp⟩ (ho _ _ p (by simp))
theorem kM.mono{t:Env->Sem Flow}{P':Sg->Fl->Prop}(h:kM C sc ro k σ t P)(hp: ∀aq f,P aq f->P' aq f):kM C sc ro k σ t P':=
 λA env h₀ own s Q r S q=>h A env h₀ own s Q r S λf fl s' aq own' a o1 o2 S' fi p=>q f fl s' aq own' a o1 o2 S' fi (hp _ _ p)
end
theorem Rep.sameBut{wc:Addr}{h h':Heap}{d:D}{v:Value}{own:List Addr}{lB:Addr}(x:Rep wc h (λa=>a∉own) v d)(hs:Heap.SameBut lB h h')(hb:lB∈own):Rep wc h' (λa=>a∉own) v d:=
 x.mono (λ_ p=>p) λa o p e=>(hs.2 a λq=>p (q▸hb)).trans e
theorem aU.sameBut{wc:Addr}{h h':Heap}{d:List D}{v:List Value}{own:List Addr}{lB:Addr}(x:aU wc h (λa=>a∉own) v d)(hs:Heap.SameBut lB h h')(hb:lB∈own):aU wc h' (λa=>a∉own) v d:=
 x.mono (λ_ p=>p) λa o p e=>(hs.2 a λq=>p (q▸hb)).trans e
theorem Slot.sameBut{wc:Addr}{h h':Heap}{own:Ow}{f:Bool}{v:Value}{d:D}{lB:Addr}(x:Slot wc h own f v d)(hs:Heap.SameBut lB h h')(hb:lB∈own.av)(hk: ∀vs,¬PlainL h lB vs):Slot wc h' own f v d:=by
 cases f with
 |false=>exact Rep.sameBut x hs hb
 |true=>
  refine bk λG hG=>?_
  obtain⟨a,vs,ds,e1,e2,tR,e3,e4,e5,e6⟩:=x
  refine hG ?_;clear hG G
  exact⟨a,vs,ds,e1,e2,tR,e3,e4.at (λo e=>(hs.2 a λq=>hk vs (q▸e4)).trans e),e5,aU.sameBut e6 hs hb⟩
section
variable{C:Cx}{sc:Scope}{ro:List Str}{k:Nat}{σ:Sg}{P:Sg->Fl->Prop}{A:Around}{env:Env}{h₀:Heap}{own:Ow}{s bD:Shared}
theorem pP{h:Heap}{a:Addr}{m:Str->Option Value}(x:h.Ns a m): ∀vs,¬PlainL h a vs:=λvs e=>by
 refine bk λG hG=>?_
 obtain⟨o,es,ep,h1,h2,_⟩:=x
 obtain⟨o',n,kh,_,_,nO⟩:=e
 refine hG ?_;clear hG G
 rw[h1] at kh;injection kh with kh;subst kh;rw[h2] at nO;cases nO
theorem jD{h:Heap}{a:Addr}{m:Option Value}(x:h.IsCell a m): ∀vs,¬PlainL h a vs:=λvs e=>by
 obtain⟨o,h1,h2⟩:=x
 obtain⟨o',n,kh,_,_,nO⟩:=e
 rw[h1] at kh;injection kh with kh;subst kh;rw[h2] at nO;cases nO
theorem lW{h:Heap}{a b:Addr}{m:Str->Option Value}{v:Option Value}(x:h.Ns a m)(y:h.IsCell b v):a≠b:=λe=>by
 subst e
 obtain⟨o,es,ep,h1,h2,_⟩:=x
 obtain⟨o',kh,nO⟩:=y
 rw[h1] at kh;injection kh with kh;subst kh
 rw[h2] at nO;cases nO
theorem St.uL{l m:List Addr}(jM:St C sc ro env h₀ σ own bD)(av:cG bD s)(h1: ∀a∈l,bD.heap.get? a=none)(h2: ∀a∈l,(s.heap.get? a).isSome=true)(hm: ∀a∈m,a∈l):St C sc ro env h₀ σ ⟨l++own.av,m++own.mu⟩ s where
 scope:=jM.scope
 kind:=jM.kind
 glob:=jM.glob
 blt:=jM.blt
 base:=jM.base
 keep:=(jM.cX av).keep
 fresh:=λb hb=>by
  rcases bB.mp hb with hb|hb
  · cases e:h₀.get? b with
    |none=>rfl
    |some o=>have:=h1 b hb;rw[jM.keep b o e] at this;cases this
  · exact jM.fresh b hb
 alive:=λb hb=>by
  rcases bB.mp hb with hb|hb
  · exact h2 b hb
  · exact(jM.cX av).alive b hb
 ns:=(jM.cX av).ns
 eN:=b_ _ jM.eN
 sub:=λb hb=>(bB.mp hb).elim (λh=>dY _ (hm b h)) λh=>b_ _ (jM.sub b h)
 cells:=λy hk hr=>let⟨c,iK,e,i,m⟩:=(jM.cX av).cells y hk hr;⟨c,iK,e,i,b_ _ m⟩
 gb:=jM.gb
 free:=jM.free
 pe:=jM.pe
 vars:=λy f d e=>by
  obtain⟨v,va,sl⟩:=jM.vars y f d e
  refine⟨v,va.mono λb o e=>av.get e,?_⟩
  cases f with
  |false=>
   refine Rep.mono (Rep.alive sl) (λb hb hm=>?_) λb o _ e=>av.get e
   rcases bB.mp hm with hm|hm
   · have:=hb.2;rw[h1 b hm] at this;cases this
   · exact hb.1 hm
  |true=>
   refine bk λG hG=>?_
   obtain⟨b,vs,ds,e1,e2,tR,e3,e4,e5,e6⟩:=sl
   refine hG ?_;clear hG G
   refine⟨b,vs,ds,e1,b_ _ e2,b_ _ tR,e3,e4.at (λo e=>av.get e),e5,aU.mono (aU.alive e6) (λb hb hm=>?_) λb o _ e=>av.get e⟩
   rcases bB.mp hm with hm|hm
   · have:=hb.2;rw[h1 b hm] at this;cases this
   · exact hb.1 hm
 inj:=(jM.cX av).inj
theorem St.HL{a:Addr}(jM:St C sc ro env h₀ σ own bD)(av:cG bD s)(h1:bD.heap.get? a=none)(h2:(s.heap.get? a).isSome=true):St C sc ro env h₀ σ ⟨a::own.av,a::own.mu⟩ s:=
 jM.uL (l:=[a]) (m:=[a]) av (λb hb=>ay.mp hb▸h1) (λb hb=>ay.mp hb▸h2) λ_ h=>h
theorem St.Ca{x:Str}{f:Bool}{d:D}{v:Value}{Q:Unit->Shared->Prop}(S:St C sc ro env h₀ σ own s)(sl:Slot C.wc s.heap own f v d)
 (hx:sc.names.lookup x=some .local \/sc.names.lookup x=some .cell) (hr:x∉ro)
 (hi:f=true-> ∀y dy,y≠x->σ.get y=some (true,dy)-> ¬cg env s.heap y v)
 (h: ∀s',aO own.mu s s'->(∀a vs,PlainL s.heap a vs->PlainL s'.heap a vs)->(∀y vy,y≠x->cg env s.heap y vy->cg env s'.heap y vy)->St C sc ro env h₀ (σ.set x f d) own s'->Q () s'):wpAny (model C.prog C.w) A (storeName env x v) Q (λ_ _=>False) s:=by
 have hkind:env.scope.kind= .function:=by rw[S.scope];exact S.kind
 have main: ∀(lB:Addr) (h':Heap) (t:Nat),lB∈own.mu->Heap.SameBut lB s.heap h'->(∀vs,¬PlainL s.heap lB vs)->(h'.get? lB).isSome=true->(∃m,h'.Ns env.locals m)->
  (∀y,env.kindOf y=some .cell->y∉ro-> ∃c iK,env.cells.lookup y=some c/\ h'.IsCell c iK/\ c∈own.mu)->cg env h' x v->
  (∀y vy,y≠x->cg env s.heap y vy->cg env h' y vy)->Q () {s with heap:=h',toks:=t}:=by
  intro lB h' t hb hs xY nR mT gk XE XF
  refine h _ ⟨λb o hm e=>(hs.2 b λq=>hm (q▸hb)).trans e,rfl,bF.rfl'⟩ (λa vs x=>x.at λo e=>(hs.2 a λq=>xY vs (q▸x)).trans e) XF ?_
  refine⟨S.scope,S.kind,S.glob,S.blt,S.base,λb o e=>(hs.2 b λq=>?_).trans (S.keep b o e),S.fresh,λb hm=>?_,mT,S.eN,S.sub,gk,S.gb,S.free,S.pe,λy g e he=>?_,λy z dy dz a e1 e2 v1 v2=>?_⟩
  · have:=S.fresh lB (S.sub _ hb);rw[<-q,e] at this;cases this
  · by_cases q:b=lB
    · rw[q];exact nR
    · show(h'.get? b).isSome=true
      rw[hs.2 b q];exact S.alive b hm
  · rw[Sg.get_set] at he
    by_cases q:y=x
    · rw[af q] at he
      cases he
      exact⟨v,q▸XE,sl.sameBut hs (S.sub _ hb) xY⟩
    · rw[aa q] at he
      obtain⟨vy,va,sy⟩:=S.vars y g e he
      exact⟨vy,XF y vy q va,sy.sameBut hs (S.sub _ hb) xY⟩
  · rw[Sg.get_set] at e1 e2
    have back: ∀y dy,y≠x->σ.get y=some (true,dy)->cg env h' y (.ref a)->cg env s.heap y (.ref a):=λy dy hy e v1=>by
     obtain⟨vy,va,_⟩:=S.vars y _ _ e
     have:=(XF y vy hy va).det v1
     exact this▸va
    by_cases q1:y=x<;>by_cases q2:z=x
    · exact q1.trans q2.symm
    · rw[af q1] at e1;rw[aa q2] at e2
      cases e1
      subst q1
      have:=XE.det v1
      exact absurd (this▸back z dz q2 e2 v2) (hi rfl z dz q2 e2)
    · rw[aa q1] at e1;rw[af q2] at e2
      cases e2
      subst q2
      have:=XE.det v2
      exact absurd (this▸back y dy q1 e1 v1) (hi rfl y dy q1 e1)
    · rw[aa q1] at e1;rw[aa q2] at e2
      exact S.inj y z dy dz a e1 e2 (back y dy q1 e1 v1) (back z dz q2 e2 v2)
 obtain⟨m,hm⟩:=S.ns
 have pA:env.scope.names.lookup x=sc.names.lookup x:=by rw[S.scope]
 rcases hx with hx|hx
 · have hk:env.kindOf x=some .local:=pA.trans hx
   refine wpAny_storeName_local hk hm (λh' hn hs=>?_) (by rw[hkind];rfl)
   refine main env.locals h' _ S.eN hs (pP hm) (by obtain⟨_,_,_,q,_⟩:=hn;rw[q];rfl) ⟨_,hn⟩ (λy hy hr=>?_) (.inl ⟨hk,_,hn,by simp⟩) λy vy hy va=>?_
   · let⟨c,iK,e,i,mm⟩:=S.cells y hy hr
     exact⟨c,iK,e,i.sameBut hs (lW hm i).symm,mm⟩
   · rcases va with⟨ky,m',n',e'⟩|⟨ky,c,e',n'⟩
     · cases B_ hm n'
       exact .inl ⟨ky,_,hn,by simp[hy,e']⟩
     · exact .inr ⟨ky,c,e',n'.sameBut hs (lW hm n').symm⟩
 · have hk:env.kindOf x=some .cell:=pA.trans hx
   let⟨c,iK,ec,ic,mc⟩:=S.cells x hk hr
   refine wpAny_storeName_cell hkind hk ec ic λh' hn hs=>?_
   refine main c h' s.toks mc hs (jD ic) (by obtain⟨_,q,_⟩:=hn;rw[q];rfl) ⟨m,hm.sameBut hs (lW hm ic)⟩ (λy hy hry=>?_) (.inr ⟨.inl hk,c,ec,hn⟩) λy vy hy va=>?_
   · by_cases q:y=x
     · rw[q]
       exact⟨c,_,ec,hn,mc⟩
     · let⟨c',KW,e',i',m'⟩:=S.cells y hy hry
       exact⟨c',KW,e',i'.sameBut hs λz=>q (S.gb x y c hk hr (.inl hy) ec (z▸e')).symm,m'⟩
   · rcases va with⟨ky,m',n',e'⟩|⟨ky,c',e',n'⟩
     · exact .inl ⟨ky,m',n'.sameBut hs (lW n' ic),e'⟩
     · refine .inr ⟨ky,c',e',n'.sameBut hs λz=>hy ?_⟩
       exact(S.gb x y c hk hr (ky.imp id (·.1)) ec (z▸e')).symm
theorem St.store{x:Str}{f:Bool}{d:D}{v:Value}{Q:Unit->Shared->Prop}(S:St C sc ro env h₀ σ own s)(sl:Slot C.wc s.heap own f v d)
 (hx:sc.names.lookup x=some .local \/sc.names.lookup x=some .cell) (hr:x∉ro)
 (hi:f=true-> ∀y dy,y≠x->σ.get y=some (true,dy)-> ¬cg env s.heap y v)
 (h: ∀s',aO own.mu s s'->(∀a vs,PlainL s.heap a vs->PlainL s'.heap a vs)->St C sc ro env h₀ (σ.set x f d) own s'->Q () s'):wpAny (model C.prog C.w) A (storeName env x v) Q (λ_ _=>False) s:=
 S.Ca sl hx hr hi λs' a l _ S'=>h s' a l S'
end
section
variable(C:Cx)(sc:Scope)(ro:List Str)(k:Nat)
noncomputable def aK(σ:Sg)(e:Expr)(v:Value):Prop:=
 ∀(A:Around) (env:Env) (h₀:Heap) (own:Ow) (s:Shared) (Q:Value->Shared->Prop),bH A k->St C sc ro env h₀ σ own s->
  (∀s',cG s s'->Q v s')->wpAny (model C.prog C.w) A (eval e env) Q (λ_ _=>False) s
noncomputable def Ar(σ:Sg)(es:List Expr)(md:Md)(ds:List D):Prop:=
 (∀(A:Around) (env:Env) (h₀:Heap) (own:Ow) (s:Shared) (pos:Pos) (Q:List Value->Shared->Prop),bH A k->St C sc ro env h₀ σ own s->
   (∀vs s',cG s s'->aU C.wc s'.heap (md.ok own s.heap) vs ds->Q vs s')->wpAny (model C.prog C.w) A (spliced (backTo pos (starEach es env))) Q (λ_ _=>False) s)/\
 ∀(env:Env) (pos:Pos),(backTo pos (starEach es env)).any (·.1)=false
noncomputable def aA(f:Value):Prop:=∀h,C.B h-> ∃kp,(kp=Keeper.frame \/kp=Keeper.machine \/kp=Keeper.boundFrame)/\ Looks (model C.prog C.w) h (keeperOf f) kp
end
section
variable{C:Cx}{sc:Scope}{ro:List Str}{k:Nat}{σ:Sg}{P:Sg->Fl->Prop}
theorem Md.up{md:Md}{own:Ow}{s s':Shared}(a:cG s s'): ∀b,md.ok own s'.heap b->md.ok own s.heap b:=λb h=>by
 cases md with
 |any=>trivial
 |clean=>exact h
 |fresh=>exact a.none h
theorem St.B{env:Env}{h₀:Heap}{own:Ow}{s:Shared}(S:St C sc ro env h₀ σ own s):C.B s.heap:=C.keeps _ _ S.base S.keep
theorem Ar.nil{md:Md}:Ar C sc ro k σ [] md []:=
 ⟨λA env h₀ own s pos Q r S q=>PySem.Calls.spliced_nil (q [] s (aO.refl _ _) rfl),λ_ _=>rfl⟩
theorem Ar.cons{e:Expr}{es:List Expr}{d:D}{ds:List D}{md:Md}(h:Ev C sc ro k σ e md d)(ht:Ar C sc ro k σ es md ds)
 (he:autoParam (∀env,starEach (e::es) env=(false,eval e env)::starEach es env) au):Ar C sc ro k σ (e::es) md (d::ds):=by
 refine⟨λA env h₀ own s pos Q r S q=>?_,λenv pos=>by rw[he];exact ht.2 env pos⟩
 rw[he]
 refine PySem.Calls.spliced_cons (h A env h₀ own s _ r S λv ah az rp=>?_)
 refine ht.1 A env h₀ own ah pos _ r (S.cX az) λvs aE a₂ gK=>q (v::vs) aE (az.trans a₂) ⟨v,vs,rfl,Rep.ext rp λb o e=>a₂.get e,gK.mono (Md.up az) λ_ _ _ e=>e⟩
theorem Ev.name{x:Str}{pos:Pos}{d:D}(hx:σ.get x=some (false,d))(hd:autoParam ((x==("__debug__" :Str))=false) au):Ev C sc ro k σ (.Name x pos) .clean d:=by
 intro A env h₀ own s Q r S q
 obtain⟨v,va,sl⟩:=S.vars x _ _ hx
 have hkind:env.scope.kind= .function:=by rw[S.scope];exact S.kind
 refine wpAny_Name ?_ hd
 rcases va with⟨kx,m,n,e⟩|⟨kx|⟨kx,hq⟩,c,e,n⟩
 · exact lT hkind kx n e (q v s (aO.refl _ _) sl)
 · exact wpAny_loadName_cell hkind kx e n (q v s (aO.refl _ _) sl)
 · exact wpAny_loadName_free hkind kx e n (q v s (aO.refl _ _) sl) hq
theorem Slot.rep{wc:Addr}{h:Heap}{own:Ow}{f:Bool}{v:Value}{d:D}(x:Slot wc h own f v d):Rep wc h (λ_=>True) v d:=by
 cases f with
 |false=>exact Rep.any x
 |true=>
  obtain⟨a,vs,ds,rfl,_,h1,rfl,h2,h3,h4⟩:=x
  exact⟨a,vs,rfl,trivial,h2,h3,h4.mono (λb hb=>⟨trivial,λe=>hb (e▸h1)⟩) λ_ _ _ e=>e⟩
theorem Ev.own{x:Str}{pos:Pos}{f:Bool}{d:D}(hx:σ.get x=some (f,d))(hd:autoParam ((x==("__debug__" :Str))=false) au):Ev C sc ro k σ (.Name x pos) .any d:=by
 intro A env h₀ own s Q r S q
 obtain⟨v,va,sl⟩:=S.vars x _ _ hx
 have hkind:env.scope.kind= .function:=by rw[S.scope];exact S.kind
 refine wpAny_Name ?_ hd
 rcases va with⟨kx,m,n,e⟩|⟨kx|⟨kx,hq⟩,c,e,n⟩
 · exact lT hkind kx n e (q v s (aO.refl _ _) sl.rep)
 · exact wpAny_loadName_cell hkind kx e n (q v s (aO.refl _ _) sl.rep)
 · exact wpAny_loadName_free hkind kx e n (q v s (aO.refl _ _) sl.rep) hq
theorem Ev.o(d:D){x:Str}{pos:Pos}(hx:σ.get x=some (false,d))(hd:(x==("__debug__" :Str))=false:=by rfl):Ev C sc ro k σ (.Name x pos) .any d:=Ev.own hx hd
theorem Ev.p(d:D){x:Str}{pos:Pos}(hx:σ.get x=some (true,d))(hd:(x==("__debug__" :Str))=false:=by rfl):Ev C sc ro k σ (.Name x pos) .any d:=Ev.own hx hd
theorem aK.glob{x:Str}{pos:Pos}{v:Value}(hk:sc.names.lookup x=some .globalImplicit)(hg: ∀h,C.B h-> ∃mg,h.Ns mainGlobals mg/\ mg x=some v)(hd:autoParam ((x==("__debug__" :Str))=false) au):aK C sc ro k σ (.Name x pos) v:=by
 intro A env h₀ own s Q r S q
 have hkind:env.scope.kind= .function:=by rw[S.scope];exact S.kind
 have hkx:env.kindOf x=some .globalImplicit:=by unfold Env.kindOf;rw[S.scope];exact hk
 obtain⟨mg,n,e⟩:=hg _ S.B
 refine wpAny_Name ?_ hd
 rw[loadName_read hkind hkx]
 exact PySem.Calls.loadGlobal_global (by rw[S.glob];exact n) e (q s (aO.refl _ _))
theorem aK.blt{x:Str}{pos:Pos}{v:Value}(hk:sc.names.lookup x=some .globalImplicit)(hg: ∀h,C.B h-> ∃mg mb,h.Ns mainGlobals mg/\ mg x=none/\ h.Ns builtinsNs mb/\ mb x=some v)(hd:autoParam ((x==("__debug__" :Str))=false) au):aK C sc ro k σ (.Name x pos) v:=by
 intro A env h₀ own s Q r S q
 have hkind:env.scope.kind= .function:=by rw[S.scope];exact S.kind
 have hkx:env.kindOf x=some .globalImplicit:=by unfold Env.kindOf;rw[S.scope];exact hk
 obtain⟨mg,mb,n,e,n',e'⟩:=hg _ S.B
 refine wpAny_Name ?_ hd
 rw[loadName_read hkind hkx]
 exact PySem.Calls.loadGlobal_builtin (by rw[S.glob];exact n) e (by rw[S.blt];exact n') e' (q s (aO.refl _ _))
theorem Ev.aG{i:Int}{n:Nat}{pos:Pos}{md:Md}:Ev C sc ro k σ (.Constant (.int i) n pos) md (.int i):=
 λA env h₀ own s Q r S q=>wpAny_Constant_int (q _ _ (cG.tok _ _) ⟨_,rfl⟩)
theorem Ev.iB{x:Str}{n:Nat}{pos:Pos}{md:Md}(hl:x.length<=sizeLine:=by decide+kernel):Ev C sc ro k σ (.Constant (.str x) n pos) md (.str x):=
 λA env h₀ own s Q r S q=>wpAny_Constant_str (q _ _ (cG.tok _ _) ⟨⟨_,rfl⟩,hl⟩)
theorem Ev.gB{b:Bool}{n:Nat}{pos:Pos}{md:Md}:Ev C sc ro k σ (.Constant (.bool b) n pos) md (.bool b):=
 λA env h₀ own s Q r S q=>wpAny_Constant_bool (q _ _ (aO.refl _ _) rfl)
theorem Ev.zp{n:Nat}{pos:Pos}{md:Md}:Ev C sc ro k σ (.Constant .none n pos) md .none:=
 λA env h₀ own s Q r S q=>wpAny_Constant_none (q _ _ (aO.refl _ _) rfl)
theorem di{M:Model}{A:Around}{E:Value->Shared->Prop}{s:Shared}{f:Value}{l:List (Bool×Sem Value)}{Q:Args->Shared->Prop}(hl:l.any (·.1)=false)
 (h:wpAny M A (spliced l) (λvs s'=>Q ⟨vs,[]⟩ s') E s):wpAny M A (evalArgs f true l []) Q E s:=by
 have fin:wpAny M A (spliced l>>=λpos=>(holding (pos++[]) (pure ⟨pos,[]⟩):Sem Args)) Q E s:=
  ao (aT h (λvs s' h'=>dZ (aJ h')) λ_ _ x=>x)
 rcases l with _|⟨⟨b,x⟩,r⟩
 · unfold evalArgs
   show wpAny M A (spliced []>>=_) Q E s
   refine ao (aT h (λvs s' h'=>?_) λ_ _ x=>x)
   refine dZ ?_
   exact ao (aJ (ao (aJ (aJ h'))))
 · cases b with
   |false=>exact PySem.Calls.evalArgs_plain h
   |true=>cases hl
theorem Ev.call{func:Expr}{args:List Expr}{pos:Pos}{f:Value}{ds:List D}{d:D}(hf:aK C sc ro k σ func f)(ha:Ar C sc ro k σ args .any ds)(hk:aA C f)(hc:Fn C k f ds d)
 (he:autoParam (∀env,eval (.Call func args [] pos) env=(do callWith pos (<-eval func env) [] (backTo pos (starEach args env)) (backToKw pos (keywordEach [] env)))) au):
 Ev C sc ro k σ (.Call func args [] pos) .fresh d:=by
 intro A env h₀ own s Q r S q
 rw[he]
 refine ao (hf A env h₀ own s _ r S λah az=>?_)
 refine callWith_of (P:=C.B) (by show((backTo pos (starEach args env)).any (·.1)||_)=false;rw[ha.2];rfl) hk ?_
 have bE:=S.cX az
 have KY:=ha.1 A env h₀ own ah pos
 have key:wpAny (model C.prog C.w) A (spliced (backTo pos (starEach args env))) (λvs s'=>C.B s'.heap/\ wpAny (model C.prog C.w) A (PySem.call f vs []) Q (λ_ _=>False) s') (λ_ _=>False) ah:=
  KY _ r bE λvs aE a₂ gK=>⟨(bE.cX a₂).B,hc A aE vs Q r (bE.cX a₂).B gK λv aV cL rp=>q v aV ((az.trans a₂).trans cL) (rp.mono (λb hb=>(az.trans a₂).none hb) λ_ _ _ e=>e)⟩
 exact di (ha.2 env pos) key
end
section
variable(C:Cx)(k:Nat)
noncomputable def HM(op:Value->Value->Sem Value)(a b d:D):Prop:=
 ∀(A:Around) (s:Shared) (va vb:Value) (Q:Value->Shared->Prop),bH A k->C.B s.heap->Rep C.wc s.heap (λ_=>True) va a->Rep C.wc s.heap (λ_=>True) vb b->
  (∀v s',cG s s'->Rep C.wc s'.heap (λz=>s.heap.get? z=none) v d->Q v s')->wpAny (model C.prog C.w) A (op va vb) Q (λ_ _=>False) s
noncomputable abbrev ak(op:Operator)(a b d:D):Prop:=HM C k (binaryOp op) a b d
noncomputable abbrev qo(op:Operator)(a b d:D):Prop:=HM C k (inplaceOp op) a b d
noncomputable abbrev aH(op:CmpOp)(a b:D)(r:Bool):Prop:=HM C k (compareOp op) a b (.bool r)
noncomputable def iE(op:UnaryOp)(a d:D):Prop:=
 ∀(A:Around) (s:Shared) (va:Value) (Q:Value->Shared->Prop),bH A k->C.B s.heap->Rep C.wc s.heap (λ_=>True) va a->
  (∀v s',cG s s'->Rep C.wc s'.heap (λz=>s.heap.get? z=none) v d->Q v s')->wpAny (model C.prog C.w) A (unaryOp op va) Q (λ_ _=>False) s
end
section
variable{C:Cx}{sc:Scope}{ro:List Str}{k:Nat}{σ:Sg}{P:Sg->Fl->Prop}
theorem Ev.bin{l r:Expr}{op:Operator}{pos:Pos}{a b d:D}(h1:Ev C sc ro k σ l .any a)(h2:Ev C sc ro k σ r .any b)(ho:ak C k op a b d):Ev C sc ro k σ (.BinOp l op r pos) .fresh d:=by
 intro A env h₀ own s Q rm S q
 refine wpAny_BinOp (h1 A env h₀ own s _ rm S λv ah az rp=>?_)
 refine h2 A env h₀ own ah _ rm (S.cX az) λv' aE a₂ vX=>?_
 exact ho A aE v v' Q rm ((S.cX az).cX a₂).B (Rep.ext rp λb o e=>a₂.get e) vX λw aV cL rw=>q w aV ((az.trans a₂).trans cL) (rw.mono (λz hz=>(az.trans a₂).none hz) λ_ _ _ e=>e)
theorem Ev.cmp{l r:Expr}{op:CmpOp}{pos:Pos}{a b:D}{x:Bool}{md:Md}(h1:Ev C sc ro k σ l .any a)(h2:Ev C sc ro k σ r .any b)(ho:aH C k op a b x)
 (hm:behindInMarks op r=false:=by with_unfolding_all rfl):Ev C sc ro k σ (.Compare l [op] [r] pos) md (.bool x):=by
 intro A env h₀ own s Q rm S q
 refine wpAny_Compare1 (h1 A env h₀ own s _ rm S λv ah az rp=>?_) hm
 refine h2 A env h₀ own ah _ rm (S.cX az) λv' aE a₂ vX=>?_
 exact ho A aE v v' Q rm ((S.cX az).cX a₂).B (Rep.ext rp λb o e=>a₂.get e) vX λw aV cL rw=>q w aV ((az.trans a₂).trans cL) rw
theorem Te.cmp{l r:Expr}{op:CmpOp}{pos:Pos}{a b:D}{x:Bool}(h1:Ev C sc ro k σ l .any a)(h2:Ev C sc ro k σ r .any b)(ho:aH C k op a b x)
 (hm:behindInMarks op r=false:=by with_unfolding_all rfl):Te C sc ro k σ (.Compare l [op] [r] pos) x:=by
 intro A env h₀ own s Q rm S q
 refine wpAny_isTrue_Compare1 (h1 A env h₀ own s _ rm S λv ah az rp=>?_) hm
 refine h2 A env h₀ own ah _ rm (S.cX az) λv' aE a₂ vX=>?_
 refine ho A aE v v' _ rm ((S.cX az).cX a₂).B (Rep.ext rp λb o e=>a₂.get e) vX λw aV cL rw=>?_
 cases rw
 exact wpAny_truthy_bool (q aV ((az.trans a₂).trans cL))
theorem Te.ofBool{e:Expr}{b:Bool}(h:Ev C sc ro k σ e .any (.bool b))
 (he: ∀env w,isTrue e env w=(do let v<-w;standAt e.pos;holding [v] (truthy v)):=by intros;rfl):Te C sc ro k σ e b:=by
 intro A env h₀ own s Q rm S q
 rw[he]
 refine ao (h A env h₀ own s _ rm S λv ah az rp=>?_)
 cases rp
 exact ao (fM (dZ (wpAny_truthy_bool (q ah az))))
theorem Te.and{fk dJ:Expr}{b₁ b₂:Bool}{pos:Pos}(h1:Te C sc ro k σ fk b₁)(h2:b₁=true->Te C sc ro k σ dJ b₂):Te C sc ro k σ (.BoolOp .And [fk,dJ] pos) (b₁&&b₂):=by
 intro A env h₀ own s Q rm S q
 show wpAny _ A (allTrue .And [fk,dJ] env) Q _ s
 refine ao (h1 A env h₀ own s _ rm S λah az=>?_)
 cases b₁ with
 |false=>exact aJ (q ah az)
 |true=>
  show wpAny _ A (allTrue .And [dJ] env) Q _ ah
  refine ao (h2 rfl A env h₀ own ah _ rm (S.cX az) λaE a₂=>?_)
  cases b₂ with
  |false=>exact aJ (q aE (az.trans a₂))
  |true=>show wpAny _ A (allTrue .And [] env) Q _ aE;exact aJ (q aE (az.trans a₂))
theorem Te.or{fk dJ:Expr}{b₁ b₂:Bool}{pos:Pos}(h1:Te C sc ro k σ fk b₁)(h2:b₁=false->Te C sc ro k σ dJ b₂):Te C sc ro k σ (.BoolOp .Or [fk,dJ] pos) (b₁||b₂):=by
 intro A env h₀ own s Q rm S q
 show wpAny _ A (allTrue .Or [fk,dJ] env) Q _ s
 refine ao (h1 A env h₀ own s _ rm S λah az=>?_)
 cases b₁ with
 |true=>exact aJ (q ah az)
 |false=>
  show wpAny _ A (allTrue .Or [dJ] env) Q _ ah
  refine ao (h2 rfl A env h₀ own ah _ rm (S.cX az) λaE a₂=>?_)
  cases b₂ with
  |true=>exact aJ (q aE (az.trans a₂))
  |false=>show wpAny _ A (allTrue .Or [] env) Q _ aE;exact aJ (q aE (az.trans a₂))
theorem Ev.and{fk dJ:Expr}{b₁ b₂:Bool}{pos:Pos}{md:Md}(h1:Ev C sc ro k σ fk .any (.bool b₁))(h2:b₁=true->Ev C sc ro k σ dJ .any (.bool b₂)):Ev C sc ro k σ (.BoolOp .And [fk,dJ] pos) md (.bool (b₁&&b₂)):=by
 intro A env h₀ own s Q rm S q
 show wpAny _ A (boolOp pos .And [eval fk env,eval dJ env]) Q _ s
 refine ao (h1 A env h₀ own s _ rm S λv ah az rp=>?_)
 cases rp
 refine ao (fM (ao (dZ (wpAny_truthy_bool ?_))))
 cases b₁ with
 |false=>exact aJ (q _ ah az rfl)
 |true=>exact h2 rfl A env h₀ own ah _ rm (S.cX az) λv' aE a₂ vX=>q _ aE (az.trans a₂) vX
theorem Ev.Gr{t fk dJ:Expr}{b:Bool}{pos:Pos}{md:Md}{d:D}(ht:Te C sc ro k σ t b)(h1:b=true->Ev C sc ro k σ fk md d)(h2:b=false->Ev C sc ro k σ dJ md d):Ev C sc ro k σ (.IfExp t fk dJ pos) md d:=by
 intro A env h₀ own s Q rm S q
 show wpAny _ A (do if<-isTrue t env (eval t env) then eval fk env else eval dJ env) Q _ s
 refine ao (ht A env h₀ own s _ rm S λah az=>?_)
 cases b with
 |true=>exact h1 rfl A env h₀ own ah _ rm (S.cX az) λv aE a₂ rp=>q v aE (az.trans a₂) (rp.mono (Md.up az) λ_ _ _ e=>e)
 |false=>exact h2 rfl A env h₀ own ah _ rm (S.cX az) λv aE a₂ rp=>q v aE (az.trans a₂) (rp.mono (Md.up az) λ_ _ _ e=>e)
theorem Ev.un{op:UnaryOp}{e:Expr}{pos:Pos}{a d:D}(h:Ev C sc ro k σ e .any a)(ho:iE C k op a d):Ev C sc ro k σ (.UnaryOp op e pos) .fresh d:=by
 intro A env h₀ own s Q rm S q
 show wpAny _ A (do let v<-eval e env;standAt pos;holding [v] (unaryOp op v)) Q _ s
 refine ao (h A env h₀ own s _ rm S λv ah az rp=>?_)
 exact ao (fM (dZ (ho A ah v _ rm (S.cX az).B rp λw aE a₂ rw=>q w aE (az.trans a₂) (rw.mono (λz hz=>az.none hz) λ_ _ _ e=>e))))
section
variable{a b:Int}
theorem ak.add:ak C k .Add (.int a) (.int b) (.int (a+b)):=λA s va vb Q rm B ra rb q=>by
 obtain⟨t,rfl⟩:=ra;obtain⟨u,rfl⟩:=rb
 exact PySem.AutoIntOps.add_0 (q _ _ (cG.tok _ _) ⟨_,rfl⟩)
theorem ak.sub:ak C k .Sub (.int a) (.int b) (.int (a-b)):=λA s va vb Q rm B ra rb q=>by
 obtain⟨t,rfl⟩:=ra;obtain⟨u,rfl⟩:=rb
 exact PySem.AutoIntOps.sub_0 (q _ _ (cG.tok _ _) ⟨_,rfl⟩)
theorem ak.mul(hm:IntMulOk a b):ak C k .Mult (.int a) (.int b) (.int (a*b)):=λA s va vb Q rm B ra rb q=>by
 obtain⟨t,rfl⟩:=ra;obtain⟨u,rfl⟩:=rb
 exact PySem.AutoIntOps.mul_0 (q _ _ (cG.tok _ _) ⟨_,rfl⟩) hm
theorem ak.fdiv(h0:(b==0)=false)(h1:Builtin.divisionGoesByPylong a b=false):ak C k .FloorDiv (.int a) (.int b) (.int (a.fdiv b)):=λA s va vb Q rm B ra rb q=>by
 obtain⟨t,rfl⟩:=ra;obtain⟨u,rfl⟩:=rb
 exact PySem.AutoIntOps.floordiv_1 (by rw[h0];exact Bool.false_ne_true) (by rw[h1];exact Bool.false_ne_true) (q _ _ (cG.tok _ _) ⟨_,rfl⟩)
theorem ak.fmod(h0:(b==0)=false):ak C k .Mod (.int a) (.int b) (.int (a.fmod b)):=λA s va vb Q rm B ra rb q=>by
 obtain⟨t,rfl⟩:=ra;obtain⟨u,rfl⟩:=rb
 exact PySem.AutoIntOps.mod_1 (by rw[h0];exact Bool.false_ne_true) (q _ _ (cG.tok _ _) ⟨_,rfl⟩)
theorem qo.add:qo C k .Add (.int a) (.int b) (.int (a+b)):=λA s va vb Q rm B ra rb q=>by
 obtain⟨t,rfl⟩:=ra;obtain⟨u,rfl⟩:=rb
 exact PySem.AutoIntOps.iadd_0 (q _ _ (cG.tok _ _) ⟨_,rfl⟩)
theorem qo.sub:qo C k .Sub (.int a) (.int b) (.int (a-b)):=λA s va vb Q rm B ra rb q=>by
 obtain⟨t,rfl⟩:=ra;obtain⟨u,rfl⟩:=rb
 exact PySem.AutoIntOps.isub_0 (q _ _ (cG.tok _ _) ⟨_,rfl⟩)
theorem aH.eq:aH C k .Eq (.int a) (.int b) (a==b):=λA s va vb Q rm B ra rb q=>by
 obtain⟨t,rfl⟩:=ra;obtain⟨u,rfl⟩:=rb
 exact PyProof.Rows.eq_int (q _ _ (aO.refl _ _) rfl)
theorem aH.ne:aH C k .NotEq (.int a) (.int b) (a !=b):=λA s va vb Q rm B ra rb q=>by
 obtain⟨t,rfl⟩:=ra;obtain⟨u,rfl⟩:=rb
 exact PyProof.Rows.ne_int (q _ _ (aO.refl _ _) rfl)
theorem aH.lt:aH C k .Lt (.int a) (.int b) (decide (a<b)):=λA s va vb Q rm B ra rb q=>by
 obtain⟨t,rfl⟩:=ra;obtain⟨u,rfl⟩:=rb
 exact PyProof.Rows.lt_int (q _ _ (aO.refl _ _) rfl)
theorem aH.gt:aH C k .Gt (.int a) (.int b) (decide (b<a)):=λA s va vb Q rm B ra rb q=>by
 obtain⟨t,rfl⟩:=ra;obtain⟨u,rfl⟩:=rb
 exact PyProof.Rows.gt_int (q _ _ (aO.refl _ _) rfl)
end
end
section
variable(C:Cx)(sc:Scope)(ro:List Str)(k:Nat)
noncomputable def aP(σ:Sg)(e:Expr)(f:Bool)(d:D):Prop:=
 ∀(A:Around) (env:Env) (h₀:Heap) (own:Ow) (s:Shared) (Q:Value->Shared->Prop),bH A k->St C sc ro env h₀ σ own s->
  (∀v s' own',cG s s'->(∀b∈own.av,b∈own'.av)->(∀b∈own'.mu,b∈own.mu \/s.heap.get? b=none)->St C sc ro env h₀ σ own' s'->Slot C.wc s'.heap own' f v d->(f=true-> ∀y dy,σ.get y=some (true,dy)-> ¬cg env s'.heap y v)->Q v s')->
  wpAny (model C.prog C.w) A (eval e env) Q (λ_ _=>False) s
end
section
variable{C:Cx}{sc:Scope}{ro:List Str}{k:Nat}{σ:Sg}{P:Sg->Fl->Prop}
theorem aP.jg{e:Expr}{d:D}{md:Md}(h:Ev C sc ro k σ e md d)(hd:d.sc=true):aP C sc ro k σ e false d:=
 λA env h₀ own s Q r S q=>h A env h₀ own s Q r S λv s' a rp=>q v s' own a (λ_ h=>h) (λ_ h=>.inl h) (S.cX a) (rp.dH hd) λh=>nomatch h
theorem aP.clean{e:Expr}{d:D}(h:Ev C sc ro k σ e .clean d):aP C sc ro k σ e false d:=
 λA env h₀ own s Q r S q=>h A env h₀ own s Q r S λv s' a rp=>q v s' own a (λ_ h=>h) (λ_ h=>.inl h) (S.cX a) rp λh=>nomatch h
theorem aP.fresh{e:Expr}{d:D}(h:Ev C sc ro k σ e .fresh d):aP C sc ro k σ e false d:=aP.clean h.rL
theorem nU{env:Env}{h₀:Heap}{own:Ow}{s s':Shared}{v:Value}{ds:List D}{Pr:Addr->Prop}(S:St C sc ro env h₀ σ own s)(a:cG s s')(rp:Rep C.wc s'.heap (λb=>s.heap.get? b=none/\ Pr b) v (.list ds)):
 ∃b,v= .ref b/\ s.heap.get? b=none/\ St C sc ro env h₀ σ ⟨b::own.av,b::own.mu⟩ s'/\ Slot C.wc s'.heap ⟨b::own.av,b::own.mu⟩ true v (.list ds)/\ ∀y dy,σ.get y=some (true,dy)-> ¬cg env s'.heap y v:=by
 refine bk λG hG=>?_
 obtain⟨b,vs,rfl,⟨hb,_⟩,hl,hs,hr⟩:=rp
 refine hG ?_;clear hG G
 have al:(s'.heap.get? b).isSome=true:=by obtain⟨o,_,ho,_⟩:=hl;rw[ho];rfl
 refine⟨b,rfl,hb,S.HL a hb al,⟨b,vs,ds,rfl,.head _,.head _,rfl,hl,hs,hr.mono (λz hz hm=>?_) λ_ _ _ e=>e⟩,λy dy hy va=>?_⟩
 · rcases aB.mp hm with rfl|hm
   · exact hz.2 rfl
   · have:=S.alive z hm
     rw[hz.1.1] at this;cases this
 · obtain⟨v,lV,sl⟩:=S.vars y _ _ hy
   have:=(lV.mono λb o e=>a.get e).det va
   subst this
   obtain⟨c,tC,ds',e1,_,e2,_⟩:=sl
   injection e1 with e1;subst e1
   have:=S.alive _ e2
   rw[hb] at this;cases this
theorem aP.own{e:Expr}{ds:List D}(h:Ev C sc ro k σ e .fresh (.list ds)):aP C sc ro k σ e true (.list ds):=
 λA env h₀ own s Q r S q=>h A env h₀ own s Q r S λv s' a rp=>by
  obtain⟨b,rfl,hb,S',sl,hi⟩:=nU (Pr:=λ_=>True) S a (rp.mono (λ_ p=>⟨p,trivial⟩) λ_ _ _ e=>e)
  exact q _ s' ⟨b::own.av,b::own.mu⟩ a (λ_ h=>.tail _ h) (λz hz=>(aB.mp hz).elim (λe=>.inr (e▸hb)) .inl) S' sl λ_=>hi
theorem Slot.XG{wc:Addr}{own:Ow}{f:Bool}{v:Value}{d:D}{s s':Shared}(x:Slot wc s.heap own f v d)(uM: ∀b∈own.mu,b∈own.av)(a:aO own.mu s s')(hl: ∀a vs,PlainL s.heap a vs->PlainL s'.heap a vs):Slot wc s'.heap own f v d:=by
 cases f with
 |false=>exact Rep.mono x (λ_ p=>p) λb o p e=>a.heap b o (λq=>p (uM _ q)) e
 |true=>
  refine bk λG hG=>?_
  refine bk λG hG=>?_
  obtain⟨b,vs,ds,e1,e2,tR,e3,e4,e5,e6⟩:=x
  refine hG ?_;clear hG G
  refine hG ?_;clear hG G
  exact⟨b,vs,ds,e1,e2,tR,e3,hl _ _ e4,e5,e6.mono (λ_ p=>p) λb o p e=>a.heap b o (λq=>p (uM _ q)) e⟩
noncomputable def Bound(sc:Scope)(ro:List Str)(x:Str):Prop:=(sc.names.lookup x=some .local \/sc.names.lookup x=some .cell)/\ x∉ro
theorem cH.assign{x:Str}{px pos:Pos}{e:Expr}{f:Bool}{d:D}(h:aP C sc ro k σ e f d)(hx:Bound sc ro x)(hp:P (σ.set x f d) .next)
 (hs: ∀env,env.scope=sc->swapsWith e (some (.Name x px)) pos.line env=pure false:=by intro env h;cases env;cases h;rfl):cH C sc ro k σ (.Assign [.Name x px] e pos) P:=by
 intro A env h₀ own s Q r S q
 refine wpAny_Assign_Name (h A env h₀ own s _ r S λv ah rM az o1 o2 bE sl hi=>?_) (hs env S.scope)
 exact bE.store sl hx.1 hx.2 (λhf y dy _ hy=>hi hf y dy hy) λaE a₂ _ bK=>q .next .next aE _ rM (aO.trans ⟨λb o _ e=>az.get e,az.os,az.gens⟩ a₂ λz hz=>o2 z hz) (λb hb _=>o1 b hb) o2 bK rfl hp
theorem cH.ite{t:Expr}{body orelse:List Stmt}{pos:Pos}{b:Bool}(ht:Te C sc ro k σ t b)(h1:b=true->Ex C sc ro k σ body P)(h2:b=false->Ex C sc ro k σ orelse P):cH C sc ro k σ (.If t body orelse pos) P:=by
 intro A env h₀ own s Q r S q
 refine wpAny_If (ht A env h₀ own s _ r S λah az=>?_)
 have lift: ∀f fl s' aq own',aO own.mu ah s'->(∀b∈own.av,b∉own.mu->b∈own'.av)->(∀b∈own'.mu,b∈own.mu \/ah.heap.get? b=none)->St C sc ro env h₀ aq own' s'->ye C.wc h₀ s'.heap fl f->P aq fl->Q f s':=
  λf fl s' aq own' a o1 o2 S' fi p=>q f fl s' aq own' (aO.trans ⟨λb o _ e=>az.get e,az.os,az.gens⟩ a λz hz=>.inl hz) o1 (λb hb=>(o2 b hb).imp id az.none) S' fi p
 cases b with
 |true=>exact h1 rfl A env h₀ own ah Q r (S.cX az) lift
 |false=>exact h2 rfl A env h₀ own ah Q r (S.cX az) lift
theorem cH.ret{e:Expr}{pos:Pos}{d:D}{md:Md}(h:Ev C sc ro k σ e md d)(hd:d.sc=true \/md= .fresh)(hp:P σ (.ret d)):cH C sc ro k σ (.Return (some e) pos) P:=by
 intro A env h₀ own s Q r S q
 refine wpAny_Return_some (h A env h₀ own s _ r S λv ah az rp=>?_)
 refine q _ (.ret d) ah σ own ⟨λb o _ e=>az.get e,az.os,az.gens⟩ (λ_ h _=>h) (λ_ h=>.inl h) (S.cX az) ⟨v,rfl,?_⟩ hp
 rcases hd with hd|rfl
 · exact rp.dH hd
 · exact rp.mono (λb hb=>by
    cases q:h₀.get? b with
    |none=>rfl
    |some o=>have z:=S.keep b o q;rw[show s.heap.get? b=none from hb] at z;cases z) λ_ _ _ e=>e
theorem aU.dH{wc:Addr}{h h':Heap}: ∀{ds:List D} {P Q:Addr->Prop} {vs:List Value},aU wc h P vs ds->(∀d∈ds,d.sc=true)->aU wc h' Q vs ds
 |[],_,_,_,x,_=>x
 |d::ds,_,_,_,x,hd=>by
  obtain⟨v,r,rfl,a,b⟩:=x
  exact⟨v,r,rfl,a.dH (hd d (.head _)),aU.dH b λe he=>hd e (.tail _ he)⟩
theorem cH.mU{x:Str}{px pos:Pos}{ds:List D}(hx:σ.get x=some (true,.list ds))(hs: ∀d∈ds,d.sc=true)(hp:P σ (.ret (.list ds)))(hd:autoParam ((x==("__debug__" :Str))=false) au):cH C sc ro k σ (.Return (some (.Name x px)) pos) P:=by
 intro A env h₀ own s Q r S q
 obtain⟨v,va,sl⟩:=S.vars x _ _ hx
 have hkind:env.scope.kind= .function:=by rw[S.scope];exact S.kind
 refine bk λG hG=>?_
 obtain⟨a,vs,ds',rfl,_,h1,e3,h2,h3,h4⟩:=sl
 refine hG ?_;clear hG G
 injection e3 with e3;subst e3
 have fin:Q (.ret (.ref a)) s:=q _ (.ret (.list ds)) s σ own (aO.refl _ _) (λ_ h _=>h) (λ_ h=>.inl h) S ⟨_,rfl,⟨a,vs,rfl,S.fresh a h1,h2,h3,aU.dH h4 hs⟩⟩ hp
 refine wpAny_Return_some (wpAny_Name ?_ hd)
 rcases va with⟨kx,m,n,e⟩|⟨kx|⟨kx,hq⟩,c,e,n⟩
 · exact lT hkind kx n e fin
 · exact wpAny_loadName_cell hkind kx e n fin
 · exact wpAny_loadName_free hkind kx e n fin hq
theorem cH.aug{x:Str}{px pos:Pos}{op:Operator}{e:Expr}{a b d:D}{f:Bool}(hx:σ.get x=some (f,a))(he:Ev C sc ro k σ e .any b)(ho:qo C k op a b d)(hd:d.sc=true)(hb:Bound sc ro x)(hp:P (σ.set x false d) .next):
 cH C sc ro k σ (.AugAssign (.Name x px) op e pos) P:=by
 intro A env h₀ own s Q r S q
 obtain⟨v,va,sl⟩:=S.vars x _ _ hx
 have hkind:env.scope.kind= .function:=by rw[S.scope];exact S.kind
 have fin:wpAny (model C.prog C.w) A (eval e env) (λv' aE=>wpAny (model C.prog C.w) A (inplaceOp op v v') (λr aV=>wpAny (model C.prog C.w) A (storeName env x r) (λ_=>Q .next) (λ_ _=>False) aV) (λ_ _=>False) aE) (λ_ _=>False) s:=by
  refine he A env h₀ own s _ r S λv' ah az rp=>?_
  refine ho A ah v v' _ r (S.cX az).B (Rep.ext sl.rep λb o e=>az.get e) rp λw aE a₂ rw=>?_
  have aY:=az.trans a₂
  exact((S.cX aY).store (f:=false) (d:=d) (rw.dH hd) hb.1 hb.2 (λh=>nomatch h) λaV cL _ dX=>q .next .next aV _ own (aO.trans ⟨λb o _ e=>aY.get e,aY.os,aY.gens⟩ cL λz hz=>.inl hz) (λ_ h _=>h) (λ_ h=>.inl h) dX rfl hp)
 refine wpAny_AugAssign_Name ?_
 rcases va with⟨kx,m,n,e⟩|⟨kx|⟨kx,hq⟩,c,e,n⟩
 · exact lT hkind kx n e fin
 · exact wpAny_loadName_cell hkind kx e n fin
 · rcases hb.1 with q|q<;>(have:env.kindOf x=sc.names.lookup x:=by unfold Env.kindOf;rw[S.scope])<;>rw[this,q] at kx<;>cases kx
end
noncomputable def gZ:List Str->List D->Sg
 |x::xs,d::ds=>(x,false,d)::gZ xs ds
 |_,_=>[]
theorem rN{names:List Str}: ∀{l:List Value} {x:Str} {v:Value},names.Nodup->(names.zip l).lookup x=some v->(names.zip l).reverse.lookup x=some v:=by
 induction names with
 |nil=>intro l x v _ h;simp at h
 |cons n ns ih=>
  intro l x v hn h
  cases l with
  |nil=>simp at h
  |cons w l=>
   rw[List.zip_cons_cons] at h ⊢
   simp only[List.reverse_cons,List.lookup_append]
   rw[ff] at h
   obtain⟨hx,hn⟩:=List.nodup_cons.mp hn
   by_cases q:(x==n)=true
   · rw[q] at h
     injection h with h;subst h
     have e:x=n:=by simpa using q
     subst e
     have:(ns.zip l).reverse.lookup x=none:=by
      rw[List.lookup_eq_none_iff]
      intro p hp
      have EP:=kq (List.mem_reverse.mp hp)
      have:x≠p.1:=λz=>hx (z▸EP.1)
      simpa using this
     rw[this]
     simp
   · have q':(x==n)=false:=by simpa using q
     rw[q'] at h
     rw[ih hn h];rfl
theorem iS{wc:Addr}{h:Heap}{Pr:Addr->Prop}: ∀{names:List Str} {ds:List D} {vs:List Value} {x:Str} {f:Bool} {d:D},aU wc h Pr vs ds->(gZ names ds).get x=some (f,d)->
 f=false/\ ∃v,(names.zip vs).lookup x=some v/\ Rep wc h Pr v d:=λ{names}=>by
 induction names with
 |nil=>intro ds vs x f d _ e;cases e
 |cons n ns ih=>
  intro ds vs x f d' r e
  cases ds with
  |nil=>cases e
  |cons d ds=>
   obtain⟨v,r',rfl,a,b⟩:=r
   rw[List.zip_cons_cons,ff]
   rcases Sg.bO e with⟨q,e⟩|⟨q,e⟩
   · cases e
     have:(x==n)=true:=by simpa using q
     rw[this]
     exact⟨rfl,v,rfl,a⟩
   · have:(x==n)=false:=by simpa using q
     rw[this]
     exact ih b e
noncomputable def FnAt(C:Cx)(a:Addr)(name:Str)(params:Arguments)(body:List Stmt)(scope:Scope):Prop:=
 ∀h,C.B h-> ∃o pm cd doc,h.get? a=some o/\ o.data= .func (Calls.docDef name params body scope pm cd doc)/\ h.CodeRec cd name
theorem aA.fn{C:Cx}{a:Addr}{name:Str}{params:Arguments}{body:List Stmt}{scope:Scope}(h:FnAt C a name params body scope):aA C (.ref a):=λhp B=>by
 refine bk λG hG=>?_
 obtain⟨o,pm,cd,doc,ho,hd,_⟩:=h hp B
 refine hG ?_;clear hG G
 refine⟨.frame,.inl rfl,(Looks.ld (part:=none) ho).andThen ?_⟩
 rw[hd]
 exact .now
theorem bg(h:Heap):h.get? h.objs.size=none:=by
 cases e:h.get? h.objs.size with
 |none=>rfl
 |some o=>exact absurd (fY e) (Nat.lt_irrefl _)
theorem mC{scope:Scope}{x:Str}{kd:NameKind}(h: ∀y∈scope.names,y.2≠kd):scope.names.lookup x≠some kd:=λe=>by
 obtain⟨uN,yf,e,_⟩:=ly.mp e
 exact absurd rfl (h (x,kd) (by rw[e];simp))
theorem St.init{C:Cx}{scope:Scope}{env:Env}{hB:Heap}{s:Shared}{bX:Heap}{t:Nat}{ps:List Str}{vs:List Value}{ds:List D}{Ps:List Addr}{Pr:Addr->Prop}(pA:env.scope=scope)(hk:scope.kind= .function)(vY:env.globals=mainGlobals)(HN:env.builtins=builtinsNs)
 (hL:env.locals=s.heap.objs.size) (Bh:C.B hB) (hg: ∀b o,hB.get? b=some o->s.heap.get? b=some o) (hid: ∀b∈Ps,hB.get? b=none) (Gs: ∀b∈Ps,(s.heap.get? b).isSome=true) (keep: ∀b o,s.heap.get? b=some o->bX.get? b=some o)
 (mT:bX.Ns s.heap.objs.size λx=>(ps.zip vs).reverse.lookup x) (iL: ∀x∈ps,scope.names.lookup x=some .local) (hcell: ∀x∈scope.names,x.2≠.cell) (hfree: ∀x∈scope.names,x.2≠.free) (qp:ps.Nodup) (hP: ∀b,Pr b->b∉Ps) (gK:aU C.wc s.heap Pr vs ds):
 St C scope [] env hB (gZ ps ds) ⟨s.heap.objs.size::Ps,[s.heap.objs.size]⟩ {s with heap:=bX,toks:=t}:=by
 subst pA
 have nL:s.heap.get? s.heap.objs.size=none:=bg _
 exact{
  scope:=rfl
  kind:=hk
  glob:=vY
  blt:=HN
  base:=Bh
  keep:=λb o e=>keep b o (hg b o e)
  fresh:=λb hb=>by
   rcases aB.mp hb with rfl|hb
   · cases z:hB.get? s.heap.objs.size with
     |none=>rfl
     |some o=>rw[hg _ _ z] at nL;cases nL
   · exact hid b hb
  alive:=λb hb=>by
   show(bX.get? b).isSome=true
   rcases aB.mp hb with rfl|hb
   · obtain⟨oL,_,_,h,_⟩:=mT;rw[h];rfl
   · obtain⟨o,z⟩:=c_.mp (Gs b hb)
     rw[keep b o z];rfl
  ns:=⟨_,hL▸mT⟩
  eN:=by rw[hL];exact .head _
  sub:=λb hb=>by rw[ay.mp hb];exact .head _
  cells:=λx hx=>absurd hx (mC hcell)
  gb:=λx y c hx=>absurd hx (mC hcell)
  free:=λx hx=>absurd hx (mC hfree)
  pe:=λx c hx=>by cases hx
  vars:=λx f d' e=>by
   obtain⟨rfl,v,hv,rp⟩:=iS gK e
   have hx:x∈ps:=by
    obtain⟨uN,yf,e,_⟩:=ly.mp hv
    have:(x,v)∈ps.zip vs:=by rw[e];simp
    exact(kq this).1
   refine⟨v,.inl ⟨iL x hx,_,hL▸mT,rN qp hv⟩,?_⟩
   refine(Rep.alive rp).mono (λb hb hm=>?_) λb o _ e=>keep b o e
   rcases aB.mp hm with rfl|hm
   · have h2:=hb.2
     rw[nL] at h2;cases h2
   · exact hP b hb.1 hm
  inj:=λx y dx dy b e1=>by
   obtain⟨h,_⟩:=iS gK e1
   cases h}
theorem Fn.plain{C:Cx}{k:Nat}{a:Addr}{name:Str}{params:Arguments}{body:List Stmt}{scope:Scope}{ds:List D}{d:D}(hf:FnAt C a name params body scope)
 (hb: ∀pm cd doc (vs:List Value),vs.length=ds.length->bindArgs (Calls.docDef name params body scope pm cd doc) ⟨vs,[]⟩=pure ((params.args.map (·.arg)).zip vs))
 (hl:(params.args.map (·.arg)).length=ds.length) (qp:(params.args.map (·.arg)).Nodup)
 (iL: ∀x∈params.args.map (·.arg),scope.names.lookup x=some .local) (hcell: ∀x∈scope.names,x.2≠.cell) (hfree: ∀x∈scope.names,x.2≠.free)
 (d_:Ex C scope [] k (gZ (params.args.map (·.arg)) ds) body λ_ fl=>fl= .ret d \/(fl= .next/\ d= .none))
 (hk:autoParam (scope.kind= .function) au) (rO:autoParam (scope.isCoroutine=false) au) (jN:autoParam (scope.isGenerator=false) au):Fn C (k+1) (.ref a) ds d:=by
 intro A s vs Q r B gK q
 refine bk λG hG=>?_
 obtain⟨o,pm,cd,doc,ho,hd,tU⟩:=hf _ B
 refine hG ?_;clear hG G
 have hlen:=gK.length
 refine wpAny_call (call_plain_ret (binds:=(params.args.map (·.arg)).zip vs) r.lt ho hd (C.nolimit _ B) tU (hb pm cd doc vs hlen) (λx hx=>iL _ (kq hx).1) (λbX F=>?_) rO jN hk hcell)
 have S:=St.init (env:=envOf name scope s.heap.objs.size a cd) (Ps:=[]) (t:=s.toks+((params.args.map (·.arg)).zip vs).length) rfl hk rfl rfl rfl B (λ_ _ e=>e) (λ_ h=>nomatch h) (λ_ h=>nomatch h) F.keep F.ns iL hcell hfree qp (λ_ _ h=>nomatch h) gK
 refine d_ _ (envOf name scope s.heap.objs.size a cd) _ _ _ _ (r.deeper _) S λf fl s' aq own' av o1 o2 S' fi p=>?_
 have cX:cG s s':=⟨λb o _ e=>S'.keep b o e,av.os,av.gens⟩
 rcases p with rfl|⟨rfl,rfl⟩
 · obtain⟨v,rfl,rp⟩:=fi
   exact q v s' cX rp
 · subst fi
   exact q .none s' cX rfl
structure jh(n:Nat)(mu:List Addr)(s s':Shared):Prop where
 heap: ∀b o,b∉mu->s.heap.get? b=some o->s'.heap.get? b=some o
 os:s'.os=s.os
 gens:s.gens.size<=s'.gens.size/\ (∀i,i<n->s'.gens[i]? =s.gens[i]?)/\ ((∀x∈s.gens,x.bare=true)-> ∀x∈s'.gens,x.bare=true)
theorem aO.toN{mu:List Addr}{s s':Shared}{n:Nat}(a:aO mu s s')(h:n<=s.gens.size):jh n mu s s':=
 ⟨a.heap,a.os,a.gens.1,λi hi=>a.gens.2.1 i (Nat.lt_of_lt_of_le hi h),a.gens.2.2⟩
theorem jh.toB{mu:List Addr}{s s':Shared}(a:jh s.gens.size mu s s'):aO mu s s':=⟨a.heap,a.os,a.gens⟩
theorem jh.trans{n:Nat}{mu mu':List Addr}{a b c:Shared}(x:jh n mu a b)(y:jh n mu' b c)(h: ∀z∈mu',z∈mu \/a.heap.get? z=none):jh n mu a c:=
 ⟨λz o hz e=>y.heap z o (λq=>(h z q).elim hz λn=>by cases (n).symm.trans e) (x.heap z o hz e),y.os.trans x.os,
   aX x.gens.1 y.gens.1,λi hi=>(y.gens.2.1 i hi).trans (x.gens.2.1 i hi),λh=>y.gens.2.2 (x.gens.2.2 h)⟩
noncomputable def iZ(target:Expr):D->Prop
 | .tup _=>∃elts k pos,target= .Tuple elts k pos
 |_=>∃x p,target= .Name x p
theorem iZ.name{x:Str}{p:Pos}{d:D}(h:d.sc=true):iZ (.Name x p) d:=by
 cases d<;>first|exact⟨_,_,rfl⟩|cases h
noncomputable def wu(C:Cx)(A:Around)(I:Addr)(n:Nat)(J:List Addr->List D->Shared->Prop)(wr:List Addr)(ds:List D)(d:D)(v:Value)(s s':Shared):Prop:=
 ∀(target:Expr) (Q:Unit->Shared->Prop),iZ target d->(∀iJ wr',jh n wr s iJ->(∀b∈wr',b∈wr \/s.heap.get? b=none)->(∀b∈wr,(iJ.heap.get? b).isSome=true)->(∀b∈wr',(iJ.heap.get? b).isSome=true)->
  J wr' ds iJ->Rep C.wc iJ.heap (λ_=>True) v d->Q () iJ)->wpAny (model C.prog C.w) A (letOwnedTupleGo target (.ref I) v) Q (λ_ _=>False) s'
structure It(C:Cx)(A:Around)(I:Addr)(n:Nat)(Ft:Addr->Prop)(J:List Addr->List D->Shared->Prop):Prop where
 step: ∀wr d ds s (Q:Option Value->Shared->Prop),J wr (d::ds) s->(∀v s',wu C A I n J wr ds d v s s'->Q (some v) s')->wpAny (model C.prog C.w) A (pyNext (.ref I)) Q (λ_ _=>False) s
 done: ∀wr s (Q:Option Value->Shared->Prop),J wr [] s->(∀s',jh n wr s s'->Q none s')->wpAny (model C.prog C.w) A (pyNext (.ref I)) Q (λ_ _=>False) s
 frame: ∀wr ds s s' mu,J wr ds s->aO mu s s'->(∀b∈mu,¬Ft b/\ b∉wr)->J wr ds s'
 self: ∀wr ds s (Q:Value->Shared->Prop),J wr ds s->Q (.ref I) s->wpAny (model C.prog C.w) A (pyIter (.ref I)) Q (λ_ _=>False) s
section
variable(C:Cx)(sc:Scope)(ro:List Str)(k:Nat)
noncomputable def aN(σ:Sg)(e:Expr)(ds:List D):Prop:=
 ∀(A:Around) (env:Env) (h₀:Heap) (own:Ow) (s:Shared) (Q:Value->Shared->Prop),bH A k->St C sc ro env h₀ σ own s->
  (∀I wr s' Ft J,cG s s'->(∀b∈wr,s.heap.get? b=none/\ (s'.heap.get? b).isSome=true)->It C A I s.gens.size Ft J->J wr ds s'->(∀b,Ft b->b∉own.mu/\ (s'.heap.get? b).isSome=true)->Q (.ref I) s')->
  wpAny (model C.prog C.w) A (eval e env) (λx ah=>wpAny (model C.prog C.w) A (pyIter x) Q (λ_ _=>False) ah) (λ_ _=>False) s
end
section
variable{C:Cx}{sc:Scope}{ro:List Str}{k:Nat}{σ:Sg}{P:Sg->Fl->Prop}{A:Around}{env:Env}{h₀:Heap}{own:Ow}{s s':Shared}
theorem St.move{wr BS:List Addr}(S:St C sc ro env h₀ σ own s)(hk: ∀b o,b∉wr->s.heap.get? b=some o->s'.heap.get? b=some o)(h1: ∀b∈wr,b∈own.av)(h2: ∀b∈wr,b∉own.mu)(fr: ∀b∈BS,h₀.get? b=none)(al: ∀b∈BS,(s'.heap.get? b).isSome=true)
 (su: ∀b∈own.mu,b∈BS) (dead: ∀b,b∉own.av->(s.heap.get? b).isSome=true->b∉BS):St C sc ro env h₀ σ ⟨BS,own.mu⟩ s':=by
 have hL:env.locals∉wr:=λe=>h2 _ e S.eN
 have hcell: ∀x c,(env.kindOf x=some .cell \/env.kindOf x=some .free)->env.cells.lookup x=some c->c∉wr:=λx c hx hc e=>by
  by_cases hr:x∈ro
  · have:=S.pe x c hr hc;rw[S.fresh c (h1 c e)] at this;cases this
  · rcases hx with hx|hx
    · obtain⟨c',_,e',_,m⟩:=S.cells x hx hr
      cases hc.symm.trans e'
      exact h2 _ e m
    · exact hr (S.free x hx)
 have zq: ∀x v,cg env s.heap x v->cg env s'.heap x v:=λx v h=>by
  rcases h with⟨kx,m,n,e⟩|⟨kx,c,e,n⟩
  · exact .inl ⟨kx,m,cT n λo q=>hk _ o hL q,e⟩
  · exact .inr ⟨kx,c,e,br n λo q=>hk _ o (hcell x c (kx.imp id (·.1)) e) q⟩
 exact{
  scope:=S.scope,kind:=S.kind,glob:=S.glob,blt:=S.blt,base:=S.base
  keep:=λb o e=>hk b o (λq=>by cases (S.fresh b (h1 b q)).symm.trans e) (S.keep b o e)
  fresh:=fr
  alive:=al
  ns:=S.ns.imp λm n=>cT n λo e=>hk _ o hL e
  eN:=S.eN,sub:=su
  cells:=λy hy hr=>by
   obtain⟨c,iK,e,i,m⟩:=S.cells y hy hr
   exact⟨c,iK,e,br i λo q=>hk _ o (λz=>h2 _ z m) q,m⟩
  gb:=S.gb,free:=S.free,pe:=S.pe
  vars:=λy f d e=>by
   obtain⟨v,va,sl⟩:=S.vars y f d e
   refine⟨v,zq y v va,?_⟩
   cases f with
   |false=>exact Rep.mono (Rep.alive sl) (λb p=>dead b p.1 p.2) λb o p q=>hk b o (λz=>p.1 (h1 b z)) q
   |true=>
    refine bk λG hG=>?_
    obtain⟨a,vs,ds,e1,e2,tR,e3,e4,e5,e6⟩:=sl
    refine hG ?_;clear hG G
    exact⟨a,vs,ds,e1,e2,su _ e2,e3,e4.at (λo q=>hk _ o (λz=>h2 _ z e2) q),e5,(aU.alive e6).mono (λb p=>dead b p.1 p.2) λb o p q=>hk b o (λz=>p.1 (h1 b z)) q⟩
  inj:=λy z dy dz a e1 e2 v1 v2=>by
   obtain⟨v,va,_⟩:=S.vars y _ _ e1
   obtain⟨v',lV,_⟩:=S.vars z _ _ e2
   have q1:=(zq y v va).det v1
   have q2:=(zq z v' lV).det v2
   subst q1;subst q2
   exact S.inj y z dy dz a e1 e2 va lV}
theorem St.nV{wr:List Addr}(S:St C sc ro env h₀ σ own s)(hk: ∀b o,b∉wr->s.heap.get? b=some o->s'.heap.get? b=some o){b:Addr}(hb:b∈own.av)(q:b∉wr):(s'.heap.get? b).isSome=true:=by
 obtain⟨o,ho⟩:=c_.mp (S.alive b hb)
 rw[hk b o q ho];rfl
theorem St.turn{I:Addr}(S:St C sc ro env h₀ σ own s)(hk: ∀b o,b≠I->s.heap.get? b=some o->s'.heap.get? b=some o)(h1:I∈own.av)(h2:I∉own.mu)(h3:(s'.heap.get? I).isSome=true):St C sc ro env h₀ σ own s':=
 S.move (wr:=[I]) (λb o q=>hk b o λz=>q (ay.mpr z)) (λb hb=>ay.mp hb▸h1) (λb hb=>ay.mp hb▸h2) S.fresh (λb hb=>by
  by_cases q:b=I
  · exact q▸h3
  · exact S.nV (wr:=[I]) (λb o q=>hk b o λz=>q (ay.mpr z)) hb λz=>q (ay.mp z)) S.sub λ_ h _=>h
theorem St.jO{wr wr':List Addr}(S:St C sc ro env h₀ σ own s)(hk: ∀b o,b∉wr->s.heap.get? b=some o->s'.heap.get? b=some o)(h1: ∀b∈wr,b∈own.av)(h2: ∀b∈wr,b∉own.mu)(h3: ∀b∈wr,(s'.heap.get? b).isSome=true)
 (h4: ∀b∈wr',b∈wr \/s.heap.get? b=none) (h5: ∀b∈wr',(s'.heap.get? b).isSome=true):St C sc ro env h₀ σ ⟨wr'++own.av,own.mu⟩ s':=
 S.move hk h1 h2 (λb hb=>(bB.mp hb).elim (λh=>(h4 b h).elim (λh=>S.fresh b (h1 b h)) λn=>by
  cases e:h₀.get? b with
  |none=>rfl
  |some o=>cases (S.keep b o e).symm.trans n) (S.fresh b))
  (λb hb=>(bB.mp hb).elim (h5 b) λhb=>by
    by_cases q:b∈wr
    · exact h3 b q
    · exact S.nV hk hb q)
  (λb hb=>b_ _ (S.sub b hb)) λb hb ha hm=>(bB.mp hm).elim (λh=>(h4 b h).elim (λh=>hb (h1 b h)) λn=>by rw[n] at ha;cases ha) hb
theorem St.zu{wr:List Addr}(S:St C sc ro env h₀ σ own s)(hk: ∀b o,b∉wr->s.heap.get? b=some o->s'.heap.get? b=some o)(h1: ∀b∈wr,b∈own.av)(h2: ∀b∈wr,b∉own.mu):St C sc ro env h₀ σ ⟨own.av.filter (λb=>!wr.contains b),own.mu⟩ s':=by
 have uO: ∀b,b∈own.av.filter (λb=>!wr.contains b)↔b∈own.av/\ b∉wr:=λb=>by simp
 exact S.move hk h1 h2 (λb hb=>S.fresh b ((uO b).mp hb).1) (λb hb=>S.nV hk ((uO b).mp hb).1 ((uO b).mp hb).2) (λb hb=>(uO b).mpr ⟨S.sub b hb,λh=>h2 b h hb⟩) λb h _ m=>h ((uO b).mp m).1
theorem St.ER{I:Addr}(S:St C sc ro env h₀ σ own s)(hk: ∀b o,b≠I->s.heap.get? b=some o->s'.heap.get? b=some o)(h1:I∈own.av)(h2:I∉own.mu):St C sc ro env h₀ σ ⟨own.av.filter (· ≠I),own.mu⟩ s':=
 S.move (wr:=[I]) (λb o q=>hk b o λz=>q (ay.mpr z)) (λb hb=>ay.mp hb▸h1) (λb hb=>ay.mp hb▸h2) (λb hb=>S.fresh b (fh.mp hb).1) (λb hb=>S.nV (wr:=[I]) (λb o q=>hk b o λz=>q (ay.mpr z)) (fh.mp hb).1 λz=>of_decide_eq_true (fh.mp hb).2 (ay.mp z))
  (λb hb=>fh.mpr ⟨S.sub b hb,decide_eq_true λz=>h2 (z▸hb)⟩) λb h _ m=>h (fh.mp m).1
noncomputable def TurnEnd(Inv:Sg->Prop)(P:Sg->Fl->Prop)(σ:Sg):Fl->Prop
 | .next| .cont=>Inv σ
 | .brk=>P σ .next
 | .ret d=>P σ (.ret d)
noncomputable def HO(h₀:Heap)(own:Ow)(G:Addr->Prop):Prop:=∀b,h₀.get? b=none->(b∉own.av \/b∈own.mu)->G b
theorem St.more{wr:List Addr}(S:St C sc ro env h₀ σ own s)(h: ∀b∈wr,b∈own.av):St C sc ro env h₀ σ ⟨own.av,wr++own.mu⟩ s where
 scope:=S.scope
 kind:=S.kind
 glob:=S.glob
 blt:=S.blt
 base:=S.base
 keep:=S.keep
 fresh:=S.fresh
 alive:=S.alive
 ns:=S.ns
 eN:=b_ _ S.eN
 sub:=λb hb=>(bB.mp hb).elim (h b) (S.sub b)
 cells:=λy hk hr=>by obtain⟨c,iK,e,i,m⟩:=S.cells y hk hr;exact⟨c,iK,e,i,b_ _ m⟩
 gb:=S.gb
 free:=S.free
 pe:=S.pe
 vars:=λx f d e=>by
  obtain⟨v,va,sl⟩:=S.vars x f d e
  refine⟨v,va,?_⟩
  cases f with
  |false=>exact sl
  |true=>
   refine bk λG hG=>?_
   obtain⟨a,vs,ds,e1,e2,tR,e3,e4,e5,e6⟩:=sl
   refine hG ?_;clear hG G
   exact⟨a,vs,ds,e1,b_ _ e2,tR,e3,e4,e5,e6⟩
 inj:=S.inj
structure XH(Ps:List Addr)(X:(Addr->Prop)->Heap->Prop):Prop where
 al: ∀{F:Addr->Prop} {h:Heap},X F h-> ∀b∈Ps,F b/\ (h.get? b).isSome=true
 keep: ∀{F F':Addr->Prop} {h h':Heap},X F h->(∀b o,F b->h.get? b=some o->h'.get? b=some o)->(∀b,F b->(h.get? b).isSome=true->F' b)->X F' h'
noncomputable def KZ(C:Cx)(Ps:List Addr)(X:(Addr->Prop)->Heap->Prop)(sc:Scope)(ro:List Str)(k:Nat)(σ:Sg)(t:Env->Sem Flow)(P:Sg->Fl->Prop):Prop:=
 ∀(A:Around) (env:Env) (h₀:Heap) (own:Ow) (s:Shared) (G:Addr->Prop) (Q:Flow->Shared->Prop),bH A k->St C sc ro env h₀ σ own s->(∀b∈Ps,b∈own.av)->HO h₀ own G->X (λb=>b∉own.mu/\ G b) s.heap->
  (∀f fl s' aq own',aO (Ps++own.mu) s s'->(∀b∈own.av,b∉own.mu->b∈own'.av)->(∀b∈own'.mu,b∈own.mu \/s.heap.get? b=none)->St C sc ro env h₀ aq own' s'->X (λb=>b∉own'.mu/\ G b) s'.heap->ye C.wc h₀ s'.heap fl f->P aq fl->Q f s')->
  wpAny (model C.prog C.w) A (t env) Q (λ_ _=>False) s
structure FW(C:Cx)(X:(Addr->Prop)->Heap->Prop)(sc:Scope)(ro:List Str)(env:Env)(h₀:Heap)(own:Ow)(M:List Addr)(G:Addr->Prop)(J:List Addr->List D->Shared->Prop)(Inv:List D->Sg->Prop)(s ah s':Shared)(wr:List Addr)(rest:List D)(σ:Sg)(own':Ow):Prop where
 j:J wr rest s'
 i:Inv rest σ
 st:St C sc ro env h₀ σ own' s'
 w1: ∀b∈wr,b∈own'.av
 w2: ∀b∈wr,b∉own'.mu
 w3: ∀b∈wr,b∈own.mu \/s.heap.get? b=none
 an:jh s.gens.size M s s'
 al: ∀b,b∉M->(ah.heap.get? b).isSome=true->(s'.heap.get? b).isSome=true
 o1: ∀b∈own.av,b∉own.mu->b∈own'.av
 o2: ∀b∈own'.mu,b∈own.mu \/ah.heap.get? b=none
 x:X (λb=>b∉own'.mu/\ b∉wr/\ G b) s'.heap
theorem KZ.mV{Ps:List Addr}{X:(Addr->Prop)->Heap->Prop}(L:XH Ps X){target iter:Expr}{body:List Stmt}{pos:Pos}{ds:List D}(he:aN C sc ro k σ iter ds)(upd:Sg->D->Sg)(Inv:List D->Sg->Prop)(h0:Inv ds σ)
 (kr: ∀(A:Around) (env:Env) (h₀:Heap) (own:Ow) (s:Shared) (aq:Sg) (d:D) (rest:List D) (v:Value) (Q:Unit->Shared->Prop),bH A k->St C sc ro env h₀ aq own s->Inv (d::rest) aq->Rep C.wc s.heap (λ_=>True) v d->
   (∀s',aO own.mu s s'->St C sc ro env h₀ (upd aq d) own s'->Q () s')->wpAny (model C.prog C.w) A (PySem.assign target env v) Q (λ_ _=>False) s)
 (ku: ∀d rest aq,Inv (d::rest) aq->iZ target d)
 (turn: ∀d rest aq,Inv (d::rest) aq->KZ C Ps X sc ro k (upd aq d) (execs body) (TurnEnd (Inv rest) P)) (kB: ∀aq,Inv [] aq->P aq .next)
 (hs: ∀env x,foldedSetIterable iter env x=pure x):KZ C Ps X sc ro k σ (exec (.For target iter body [] pos)) P:=by
 intro A env h₀ own s G Q r S hP hG ht q
 have NO: ∀b∈Ps,b∉own.mu:=λb hb=>(L.al ht b hb).1.1
 refine wpAny_For (aT (he A env h₀ ⟨own.av,Ps++own.mu⟩ s (λit aE=>codeAny (model C.prog C.w) A (.forLoop target it body [] env) (λr s'=>match r with| .ok f=>Q f s'| .error e=>cameBackBy (model C.prog C.w) A env (λ_ _=>False) e s') aE) r (S.more hP) ?_) (λx ah h=>h) λ_ _ h=>h) (hs env)
 intro I wz ah Ft J az nK IT hJ BU
 have bE:St C sc ro env h₀ σ ⟨wz++own.av,own.mu⟩ ah:=S.jO (wr:=[]) (λb o _ e=>az.get e) (λ_ h=>nomatch h) (λ_ h=>nomatch h) (λ_ h=>nomatch h) (λb hb=>.inr (nK b hb).1) λb hb=>(nK b hb).2
 have XI: ∀b∈wz,b∉own.mu:=λb hb m=>by have:=S.alive _ (S.sub _ m);rw[(nK b hb).1] at this;cases this
 have K0:X (λb=>b∉own.mu/\ b∉wz/\ G b) ah.heap:=L.keep ht (λb o _ e=>az.get e) λb hb al=>⟨hb.1,(λm=>by rw[(nK b m).1] at al;cases al),hb.2⟩
 let M:=Ps++own.mu
 let W:Nat->Shared->Prop:=λn s'=>∃wr rest aq own',n=rest.length/\ FW C X sc ro env h₀ own M G J Inv s ah s' wr rest aq own'
 refine codeAny_forLoop_any W (λn aE hW=>?_) ds.length ⟨wz,ds,σ,⟨wz++own.av,own.mu⟩,rfl,hJ,h0,bE,λb hb=>dY _ hb,XI,λb hb=>.inr (nK b hb).1,(aO.toN ⟨λb o _ e=>az.get e,az.os,az.gens⟩ (aR _)),λ_ _ h=>h,λb hb _=>b_ _ hb,λb hb=>.inl hb,K0⟩
 refine bk λG hG=>?_
 obtain⟨wr,rest,aq,own',rfl,K1,AL,bK,i1,i2,i3,an,an1,o1,o2,Gu⟩:=hW
 refine hG ?_;clear hG G
 have i3M: ∀b∈wr,b∈M \/s.heap.get? b=none:=λb hb=>(i3 b hb).imp (λh=>b_ _ h) id
 have K2: ∀b∈Ps++own'.mu,¬Ft b:=λb hb f=>by
  have h1:=(BU b f).1
  rcases bB.mp hb with hb|hb
  · exact h1 (dY _ hb)
  · rcases o2 b hb with h|h
    · exact h1 (b_ _ h)
    · have:=(BU b f).2;rw[h] at this;cases this
 have BR: ∀b∈own'.mu,b∈own.mu \/s.heap.get? b=none:=λb hb=>(o2 b hb).imp id az.none
 have o2M: ∀b∈Ps++own'.mu,b∈M \/s.heap.get? b=none:=λb hb=>(bB.mp hb).elim (λh=>.inl (dY _ h)) λh=>(BR b h).imp (λh=>b_ _ h) id
 have Cb: ∀b∈own.av,b∉own.mu->b∉own'.mu:=λb hb hm q=>(BR b q).elim hm λn=>by have:=S.alive b hb;rw[n] at this;cases this
 have hP': ∀b∈Ps,b∈own'.av:=λb hb=>o1 b (hP b hb) (NO b hb)
 cases rest with
 |nil=>
  refine aT (IT.done wr aE (λr ah=>match r with
   |none=>wpAny (model C.prog C.w) A (execs [] env) (λf aV=>Q f aV) (notedBy (model C.prog C.w) A env λe s'=>cameBackBy (model C.prog C.w) A env (λ_ _=>False) e s') ah
   |some v=>False) K1 λaV a=>?_) (λo s' h=>by cases o with|none=>exact h|some v=>exact h.elim) λ_ _ h=>h.elim
  have dX:=bK.zu (s':=aV) a.heap i1 i2
  have b1:jh s.gens.size M s aV:=an.trans a i3M
  exact lS (q .next .next aV aq ⟨own'.av.filter (λb=>!wr.contains b),own'.mu⟩ b1.toB (λb hb hm=>by
   have:b∉wr:=λe=>(i3 b e).elim hm λn=>by have:=S.alive b hb;rw[n] at this;cases this
   simpa using ⟨o1 b hb hm,this⟩) BR dX (L.keep Gu (λb o hb e=>a.heap b o hb.2.1 e) λb hb _=>⟨hb.1,hb.2.2⟩) rfl (kB aq AL))
 |cons d rest=>
  refine aT (IT.step wr d rest aE _ K1 λv aaa lo=>?_) (λo s' h=>h) λ_ _ h=>h.elim
  refine aT (lo target _ (ku d rest aq AL) λaV wr' a w1 w2 w3 K3 rp=>?_) (λo s' h=>h) λ_ _ h=>h.elim
  have b1:jh s.gens.size M s aV:=an.trans a i3M
  have dX:=bK.jO a.heap i1 i2 w2 w1 w3
  have Gv: ∀b,b∉M->(ah.heap.get? b).isSome=true->(aV.heap.get? b).isSome=true:=λb hb h=>by
   by_cases hw:b∈wr
   · exact w2 b hw
   · obtain⟨o,ho⟩:=c_.mp (an1 b hb h)
     rw[a.heap b o hw ho];rfl
  have w4: ∀b∈wr',b∉own'.mu:=λb hb m=>(w1 b hb).elim (λh=>i2 b h m) λn=>by have:=bK.alive b (bK.sub b m);rw[n] at this;cases this
  have w5: ∀b∈wr',b∈own.mu \/s.heap.get? b=none:=λb hb=>(w1 b hb).elim (i3 b) λn=>by
   cases e:s.heap.get? b with
   |none=>exact .inr rfl
   |some o=>
    by_cases hm:b∈own.mu
    · exact .inl hm
    · by_cases hp:b∈Ps
      · have:=bK.alive b (hP' b hp);rw[n] at this;cases this
      · rw[an.heap b o (λm=>(bB.mp m).elim hp hm) e] at n;cases n
  have Gw:X (λb=>b∉own'.mu/\ b∉wr'/\ G b) aV.heap:=L.keep Gu (λb o hb e=>a.heap b o hb.2.1 e) λb hb al=>⟨hb.1,(λm=>(w1 b m).elim hb.2.1 λn=>by rw[n] at al;cases al),hb.2.2⟩
  refine aT (kr A env h₀ _ aV aq d rest v _ r dX AL rp λcP fm gf=>?_) (λo s' h=>h) λ_ _ h=>h.elim
  have Gx:X (λb=>b∉own'.mu/\ b∉wr'/\ G b) cP.heap:=L.keep Gw (λb o hb e=>fm.heap b o hb.1 e) λb hb _=>hb
  have hG4:HO h₀ ⟨wr'++own'.av,own'.mu⟩ (λb=>b∉wr'/\ G b):=λb hb h=>by
   rcases h with h|h
   · refine⟨λm=>h (dY _ m),hG b hb ?_⟩
     by_cases ha:b∈own.av
     · by_cases hm:b∈own.mu
       · exact .inr hm
       · exact absurd (b_ _ (o1 b ha hm)) h
     · exact .inl ha
   · refine⟨λm=>w4 b m h,hG b hb ?_⟩
     rcases BR b h with h|h
     · exact .inr h
     · exact .inl λm=>by have:=S.alive b m;rw[h] at this;cases this
  refine aT (turn d rest aq AL A env h₀ _ cP (λb=>b∉wr'/\ G b) _ r gf (λb hb=>b_ _ (hP' b hb)) hG4 Gx λf fl cR wA jE g_ p1 p2 iF K4 fi tp=>?_) (λo s' h=>h) λ_ _ h=>h.elim
  have uP:aO (Ps++own'.mu) aV cR:=aO.trans (own:=Ps++own'.mu) ⟨λb o hb e=>fm.heap b o (λm=>hb (b_ _ m)) e,fm.os,fm.gens⟩ g_ λz hz=>.inl hz
  have hg:s.gens.size<=aV.gens.size:=b1.gens.1
  have c1:jh s.gens.size M s cR:=b1.trans (uP.toN hg) o2M
  have K5: ∀b,b∉M->(ah.heap.get? b).isSome=true->(cR.heap.get? b).isSome=true:=λb hb h=>by
   obtain⟨o,ho⟩:=c_.mp (Gv b hb h)
   rw[uP.heap b o (λm=>(bB.mp m).elim (λh=>hb (dY _ h)) λm=>(o2 b m).elim (λh=>hb (b_ _ h)) λn=>by rw[n] at h;cases h) ho];rfl
  have c3: ∀b∈own.av,b∉own.mu->b∈jE.av:=λb hb hm=>p1 b (b_ _ (o1 b hb hm)) (Cb b hb hm)
  have tal: ∀b∈Ps,(cP.heap.get? b).isSome=true:=λb hb=>(L.al Gx b hb).2
  have c4: ∀b∈jE.mu,b∈own.mu \/ah.heap.get? b=none:=λb hb=>(p2 b hb).elim (λh=>o2 b h) λn=>by
   by_cases hm:b∈own.mu
   · exact .inl hm
   · cases e:ah.heap.get? b with
     |none=>exact .inr rfl
     |some o=>
      exfalso
      by_cases zv:b∈own'.mu
      · have:=gf.alive b (gf.sub b zv);rw[n] at this;cases this
      · by_cases hp:b∈Ps
        · have:=tal b hp;rw[n] at this;cases this
        · obtain⟨o',Jy⟩:=c_.mp (Gv b (λm=>(bB.mp m).elim hp hm) (by rw[e];rfl))
          rw[fm.heap b o' zv Jy] at n;cases n
  have c4': ∀b∈jE.mu,b∈own.mu \/s.heap.get? b=none:=λb hb=>(c4 b hb).imp id az.none
  have c5: ∀b∈wr',b∈jE.av:=λb hb=>p1 b (dY _ hb) (w4 b hb)
  have c6: ∀b∈wr',b∉jE.mu:=λb hb m=>(p2 b m).elim (w4 b hb) λn=>by have:=gf.alive b (dY _ hb);rw[n] at this;cases this
  have c7:X (λb=>b∉jE.mu/\ G b) cR.heap:=L.keep K4 (λ_ _ _ e=>e) λb hb _=>⟨hb.1,hb.2.2⟩
  have hPw: ∀b∈Ps,b∉wr':=λb hb=>(L.al Gw b hb).1.2.1
  have more:Inv rest wA-> ∃m,m<(d::rest).length/\ W m cR:=λhi=>
   ⟨rest.length,Nat.lt_succ_self _,wr',rest,wA,jE,rfl,IT.frame wr' rest aV cR (Ps++own'.mu) K3 uP (λb hb=>⟨K2 b hb,λh=>(bB.mp hb).elim (λhp=>hPw b hp h) λhm=>w4 b h hm⟩),hi,iF,c5,c6,w5,c1,K5,c3,c4,K4⟩
  cases fl with
  |next=>subst fi;exact more tp
  |cont=>subst fi;exact more tp
  |brk=>subst fi;exact q .next .next cR wA jE c1.toB c3 c4' iF c7 rfl tp
  |ret d'=>
   obtain⟨v',rfl,vX⟩:=fi
   exact q (.ret v') (.ret d') cR wA jE c1.toB c3 c4' iF c7 ⟨v',rfl,vX⟩ tp
theorem cH.mV{target iter:Expr}{body:List Stmt}{pos:Pos}{ds:List D}(he:aN C sc ro k σ iter ds)(upd:Sg->D->Sg)(Inv:List D->Sg->Prop)(h0:Inv ds σ)
 (kr: ∀(A:Around) (env:Env) (h₀:Heap) (own:Ow) (s:Shared) (aq:Sg) (d:D) (rest:List D) (v:Value) (Q:Unit->Shared->Prop),bH A k->St C sc ro env h₀ aq own s->Inv (d::rest) aq->Rep C.wc s.heap (λ_=>True) v d->
   (∀s',aO own.mu s s'->St C sc ro env h₀ (upd aq d) own s'->Q () s')->wpAny (model C.prog C.w) A (PySem.assign target env v) Q (λ_ _=>False) s)
 (ku: ∀d rest aq,Inv (d::rest) aq->iZ target d)
 (turn: ∀d rest aq,Inv (d::rest) aq->Ex C sc ro k (upd aq d) body (TurnEnd (Inv rest) P)) (kB: ∀aq,Inv [] aq->P aq .next)
 (hs: ∀env x,foldedSetIterable iter env x=pure x:=by intro _ _;rfl):cH C sc ro k σ (.For target iter body [] pos) P:=by
 intro A env h₀ own s Q r S q
 exact KZ.mV (Ps:=[]) (X:=λ_ _=>True) ⟨λ_ _ h=>(nomatch h),λ_ _ _=>trivial⟩ he upd Inv h0 kr ku (λd rest aq h A env h₀ own s G Q r S _ _ _ q=>turn d rest aq h A env h₀ own s Q r S λf fl s' aq own' a b c S' fi p=>q f fl s' aq own' a b c S' trivial fi p) kB hs A env h₀ own s (λ_=>True) Q r S
  (λ_ h=>nomatch h) (λ_ _ _=>trivial) trivial λf fl s' aq own' a b c S' _ fi p=>q f fl s' aq own' a b c S' fi p
theorem cH.uQ{x:Str}{px pos:Pos}{iter:Expr}{body:List Stmt}{ds:List D}(he:aN C sc ro k σ iter ds)(hd: ∀d∈ds,d.sc=true)(hb:Bound sc ro x)(Inv:List D->Sg->Prop)(h0:Inv ds σ)
 (turn: ∀d rest aq,Inv (d::rest) aq->Ex C sc ro k (aq.set x false d) body (TurnEnd (Inv rest) P)) (kB: ∀aq,Inv [] aq->P aq .next)
 (hs: ∀env x,foldedSetIterable iter env x=pure x:=by intro _ _;rfl):cH C sc ro k σ (.For (.Name x px) iter body [] pos) P:=by
 refine cH.mV he (λσ d=>σ.set x false d) (λl σ=>(∀d∈l,d.sc=true)/\ Inv l σ) ⟨hd,h0⟩ ?_ (λd rest aq h=>iZ.name (h.1 d (.head _))) (λd rest aq h=>(turn d rest aq h.2).mono λkO f hf=>?_) (λaq h=>kB aq h.2) hs
 · intro A env h₀ own s aq d rest v Q r S h rp q
   exact fL (S.store (f:=false) (d:=d) (rp.dH (h.1 d (.head _))) hb.1 hb.2 (λh=>nomatch h) λs' a _ S'=>q s' a S')
 · have hr: ∀d'∈rest,d'.sc=true:=λd' nW=>h.1 d' (.tail _ nW)
   cases f with
   |next=>exact⟨hr,hf⟩
   |cont=>exact⟨hr,hf⟩
   |brk=>exact hf
   |ret d=>exact hf
end
section
variable{C:Cx}{sc:Scope}{ro:List Str}{k:Nat}{σ:Sg}{P:Sg->Fl->Prop}{A:Around}{env:Env}{h₀:Heap}{own:Ow}{s s':Shared}
theorem cH.while{test:Expr}{body:List Stmt}{pos:Pos}(Inv:Nat->Sg->Prop)(n:Nat)(h0:Inv n σ)
 (turn: ∀n aq,Inv n aq-> ∃b,Te C sc ro k aq test b/\ (b=true->Ex C sc ro k aq body (TurnEnd (λnP=>∃m,m<n/\ Inv m nP) P))/\ (b=false->P aq .next)):
 cH C sc ro k σ (.While test body [] pos) P:=by
 intro A env h₀ own s Q r S q
 refine wpAny_While ?_
 let W:Nat->Shared->Prop:=λn s'=>∃aq own',Inv n aq/\ St C sc ro env h₀ aq own' s'/\ aO own.mu s s'/\ (∀b∈own.av,b∉own.mu->b∈own'.av)/\ (∀b∈own'.mu,b∈own.mu \/s.heap.get? b=none)
 refine codeAny_whileLoop W (λn aE hW=>?_) n ⟨σ,own,h0,S,aO.refl _ _,λb hb _=>hb,λb hb=>.inl hb⟩
 refine bk λG hG=>?_
 obtain⟨aq,own',AL,bK,a,o1,o2⟩:=hW
 obtain⟨b,ht,h1,h2⟩:=turn n aq AL
 refine hG ?_;clear hG G
 have Cb: ∀b∈own.av,b∉own.mu->b∉own'.mu:=λb hb hm q=>(o2 b q).elim hm λn=>by have:=S.alive b hb;rw[n] at this;cases this
 refine aT (ht A env h₀ own' aE _ r bK λaV cL=>?_) (λ_ _ h=>h) λ_ _ h=>h.elim
 have dX:=bK.cX cL
 have a':aO own.mu s aV:=aO.trans a cL λz hz=>nomatch hz
 cases b with
 |false=>exact aT (lS (E:=λ_ _=>False) (q .next .next aV aq own' a' o1 o2 dX rfl (h2 rfl))) (λ_ _ h=>h) λ_ _ h=>h.elim
 |true=>
  refine aT (h1 rfl A env h₀ own' aV _ r dX λf fl cP wB mW fm p1 p2 gf fi tp=>?_) (λ_ _ h=>h) λ_ _ h=>h.elim
  have c1:aO own.mu s cP:=aO.trans a' fm o2
  have c3: ∀b∈own.av,b∉own.mu->b∈mW.av:=λb hb hm=>p1 b (o1 b hb hm) (Cb b hb hm)
  have c4: ∀b∈mW.mu,b∈own.mu \/s.heap.get? b=none:=λb hb=>(p2 b hb).elim (λh=>o2 b h) λn=>by
   cases e:s.heap.get? b with
   |none=>exact .inr rfl
   |some o=>
    by_cases hm:b∈own.mu
    · exact .inl hm
    · cases (a'.heap b o hm e).symm.trans n
  cases fl with
  |next=>cases fi;obtain⟨m,hm,hi⟩:=tp;exact⟨m,hm,wB,mW,hi,gf,c1,c3,c4⟩
  |cont=>cases fi;obtain⟨m,hm,hi⟩:=tp;exact⟨m,hm,wB,mW,hi,gf,c1,c3,c4⟩
  |brk=>subst fi;exact q .next .next cP wB mW c1 c3 c4 gf rfl tp
  |ret d'=>
   obtain⟨v',rfl,vX⟩:=fi
   exact q (.ret v') (.ret d') cP wB mW c1 c3 c4 gf ⟨v',rfl,vX⟩ tp
theorem Ex.freeze{x:Str}{d:D}{ss:List Stmt}(hx:σ.get x=some (true,d))(h:Ex C sc ro k (σ.set x false d) ss P):Ex C sc ro k σ ss P:=by
 intro A env h₀ own s Q r S q
 refine bk λG hG=>?_
 obtain⟨v,va,a,vs,ds,rfl,e2,tR,rfl,e4,e5,e6⟩:=S.vars x _ _ hx
 refine hG ?_;clear hG G
 have hL:env.locals≠a:=λe=>by
  obtain⟨m,hm⟩:=S.ns
  exact pP hm vs (e▸e4)
 have ES: ∀c v,s.heap.IsCell c v->c≠a:=λc v hc e=>jD hc vs (e▸e4)
 let own':Ow:=⟨own.av.filter (· ≠a),own.mu.filter (· ≠a)⟩
 have uO: ∀b,b∈own'.av↔b∈own.av/\ b≠a:=λb=>by simp[own']
 have uM: ∀b,b∈own'.mu↔b∈own.mu/\ b≠a:=λb=>by simp[own']
 have S':St C sc ro env h₀ (σ.set x false (.list ds)) own' s:={
  scope:=S.scope,kind:=S.kind,glob:=S.glob,blt:=S.blt,base:=S.base,keep:=S.keep
  fresh:=λb hb=>S.fresh b ((uO b).mp hb).1
  alive:=λb hb=>S.alive b ((uO b).mp hb).1
  ns:=S.ns
  eN:=(uM _).mpr ⟨S.eN,hL⟩
  sub:=λb hb=>(uO b).mpr ⟨S.sub b ((uM b).mp hb).1,((uM b).mp hb).2⟩
  cells:=λy hy hr=>by obtain⟨c,iK,e,i,m⟩:=S.cells y hy hr;exact⟨c,iK,e,i,(uM _).mpr ⟨m,ES c iK i⟩⟩
  gb:=S.gb,free:=S.free,pe:=S.pe
  vars:=λy f d e=>by
   rw[Sg.get_set] at e
   by_cases q:y=x
   · rw[af q] at e
     cases e
     rw[q]
     exact⟨_,va,⟨a,vs,rfl,λm=>((uO a).mp m).2 rfl,e4,e5,e6.mono (λb hb=>⟨λm=>hb ((uO b).mp m).1,λe=>hb (e▸tR)⟩) λ_ _ _ e=>e⟩⟩
   · rw[aa q] at e
     obtain⟨v,lV,sl⟩:=S.vars y f d e
     refine⟨v,lV,?_⟩
     cases f with
     |false=>exact Rep.mono sl (λb hb m=>hb ((uO b).mp m).1) λ_ _ _ e=>e
     |true=>
      obtain⟨b,tC,ds',f1,f2,K6,f3,f4,f5,f6⟩:=sl
      have:b≠a:=λz=>q (S.inj y x _ _ a e hx (by subst f1;rw[<-z];exact lV) va)
      exact⟨b,tC,ds',f1,(uM b).mpr ⟨f2,this⟩,(uO b).mpr ⟨K6,this⟩,f3,f4,f5,f6.mono (λb hb m=>hb ((uO b).mp m).1) λ_ _ _ e=>e⟩
  inj:=λy z dy dz b e1 e2 v1 v2=>by
   rw[Sg.get_set] at e1 e2
   by_cases q1:y=x
   · rw[af q1] at e1;cases e1
   · by_cases q2:z=x
     · rw[af q2] at e2;cases e2
     · rw[aa q1] at e1;rw[aa q2] at e2
       exact S.inj y z dy dz b e1 e2 v1 v2}
 refine h A env h₀ own' s Q r S' λf fl s' aq nQ a' o1 o2 EO fi p=>q f fl s' aq nQ ?_ (λb hb hm=>o1 b ((uO b).mpr ⟨hb,λe=>hm (e▸e2)⟩) λm=>hm ((uM b).mp m).1) (λb hb=>(o2 b hb).imp (λm=>((uM b).mp m).1) id) EO fi p
 exact⟨λb o hb e=>a'.heap b o (λm=>hb ((uM b).mp m).1) e,a'.os,a'.gens⟩
theorem qU{x y:Str}{px py pos:Pos}{kk:Nat}{d₁ d₂:D}{v:Value}{Q:Unit->Shared->Prop}(r:bH A k)(S:St C sc ro env h₀ σ own s)(rp:Rep C.wc s.heap (λ_=>True) v (.tup [d₁,d₂]))
 (h1:d₁.sc=true) (h2:d₂.sc=true) (hx:Bound sc ro x) (hy:Bound sc ro y)
 (q: ∀s',aO own.mu s s'->St C sc ro env h₀ ((σ.set x false d₁).set y false d₂) own s'->Q () s'):
 wpAny (model C.prog C.w) A (PySem.assign (.Tuple [.Name x px,.Name y py] kk pos) env v) Q (λ_ _=>False) s:=by
 refine bk λG hG=>?_
 obtain⟨a,vs,rfl,_,⟨o,ho,hc,n,hd⟩,hs,v1,r1,e1,p1,v2,r2,e2,p2,e3⟩:=rp
 refine hG ?_;clear hG G
 have zw:vs= #[v1,v2]:=by
  apply Array.ext'
  rw[e1,e2,e3]
 subst zw
 refine wpAny_assign_Tuple (items:=#[v1,v2]) r.1 ⟨o,ho,hc,n,hd⟩ rfl rfl λh' ET=>?_
 have ad:cG s {s with heap:=h'}:=⟨λb o' _ e=>ET b o' (fj (fY e)) e,rfl,bF.rfl'⟩
 have bE:=S.cX ad
 refine pN (fL (bE.store (f:=false) (d:=d₁) (p1.dH h1) hx.1 hx.2 (λh=>nomatch h) λaE a₂ _ bK=>?_))
 refine pN (fL (bK.store (f:=false) (d:=d₂) (p2.dH h2) hy.1 hy.2 (λh=>nomatch h) λaV cL _ dX=>?_))
 exact wpAny_assignInOrder_none (q aV (aO.trans (aO.trans ⟨λb o _ e=>ad.get e,ad.os,ad.gens⟩ a₂ λz hz=>.inl hz) cL λz hz=>.inl hz) dX)
theorem cH.zx{x y:Str}{px py tp pos:Pos}{kk:Nat}{iter:Expr}{body:List Stmt}{ds:List (D×D)}(he:aN C sc ro k σ iter (ds.map λp=>.tup [p.1,p.2]))(hd: ∀p∈ds,p.1.sc=true/\ p.2.sc=true)(hx:Bound sc ro x)(hy:Bound sc ro y)
 (Inv:List (D×D)->Sg->Prop) (h0:Inv ds σ)
 (turn: ∀d₁ d₂ rest aq,Inv ((d₁,d₂)::rest) aq->Ex C sc ro k ((aq.set x false d₁).set y false d₂) body (TurnEnd (Inv rest) P)) (kB: ∀aq,Inv [] aq->P aq .next)
 (hs: ∀env x,foldedSetIterable iter env x=pure x:=by intro _ _;rfl):cH C sc ro k σ (.For (.Tuple [.Name x px,.Name y py] kk tp) iter body [] pos) P:=by
 refine cH.mV he (λσ d=>match d with| .tup [d₁,d₂]=>(σ.set x false d₁).set y false d₂|_=>σ) (λl σ=>∃ps:List (D×D),l=ps.map (λp=>.tup [p.1,p.2])/\ (∀p∈ps,p.1.sc=true/\ p.2.sc=true)/\ Inv ps σ) ⟨ds,rfl,hd,h0⟩ ?_ (λd rest aq h=>?_) (λd rest aq h=>?_) (λaq h=>?_) hs
 · intro A env h₀ own s aq d rest v Q r S h rp q
   obtain⟨ps,e,hp,_⟩:=h
   cases ps with
   |nil=>cases e
   |cons p ps=>
    rw[bN] at e
    injection e with e1 e2
    subst e1
    obtain⟨q1,q2⟩:=hp p (.head _)
    exact qU r S rp q1 q2 hx hy q
 · obtain⟨ps,e,hp,_⟩:=h
   cases ps with
   |nil=>cases e
   |cons p ps=>
    rw[bN] at e
    injection e with e1 e2
    subst e1
    exact⟨_,_,_,rfl⟩
 · obtain⟨ps,e,hp,hi⟩:=h
   cases ps with
   |nil=>cases e
   |cons p ps=>
    rw[bN] at e
    injection e with e1 e2
    subst e1;subst e2
    refine(turn p.1 p.2 ps aq hi).mono λkO f hf=>?_
    have hr: ∀p'∈ps,p'.1.sc=true/\ p'.2.sc=true:=λp' EP=>hp p' (.tail _ EP)
    cases f with
    |next=>exact⟨ps,rfl,hr,hf⟩
    |cont=>exact⟨ps,rfl,hr,hf⟩
    |brk=>exact hf
    |ret d=>exact hf
 · obtain⟨ps,e,hp,hi⟩:=h
   cases ps with
   |nil=>exact kB aq hi
   |cons p ps=>cases e
end
section
variable{C:Cx}{sc:Scope}{ro:List Str}{k:Nat}{σ:Sg}{P:Sg->Fl->Prop}{A:Around}{env:Env}{h₀:Heap}{own:Ow}{s s':Shared}
theorem St.zy{x:Str}{a:Addr}{vs tC:Array Value}{ds ds':List D}(S:St C sc ro env h₀ σ own s)(hx:σ.get x=some (true,.list ds))(va:cg env s.heap x (.ref a))(ha:a∈own.mu)(hp:PlainL s.heap a vs)
 (hs: ∀b o,b≠a->s.heap.get? b=some o->s'.heap.get? b=some o) (hl:PlainL s'.heap a tC) (hsz:tC.size<=sizeLine) (hr:aU C.wc s'.heap (λb=>b∉own.av) tC.toList ds'):St C sc ro env h₀ (σ.set x true (.list ds')) own s':=by
 have NP:=S.sub _ ha
 have hL:env.locals≠a:=λe=>by
  obtain⟨m,hm⟩:=S.ns
  exact pP hm vs (e▸hp)
 have ES: ∀c v,s.heap.IsCell c v->c≠a:=λc v hc e=>jD hc vs (e▸hp)
 have zq: ∀y v,cg env s.heap y v->cg env s'.heap y v:=λy v h=>by
  rcases h with⟨ky,m,n,e⟩|⟨ky,c,e,n⟩
  · exact .inl ⟨ky,m,cT n λo q=>hs _ o hL q,e⟩
  · exact .inr ⟨ky,c,e,br n λo q=>hs _ o (ES c _ n) q⟩
 exact{
  scope:=S.scope,kind:=S.kind,glob:=S.glob,blt:=S.blt,base:=S.base
  keep:=λb o e=>hs b o (λq=>by rw[q,S.fresh a NP] at e;cases e) (S.keep b o e)
  fresh:=S.fresh
  alive:=λb hb=>by
   by_cases q:b=a
   · obtain⟨o,_,ho,_⟩:=hl;rw[q,ho];rfl
   · obtain⟨o,ho⟩:=c_.mp (S.alive b hb)
     rw[hs b o q ho];rfl
  ns:=by obtain⟨m,n⟩:=S.ns;exact⟨m,cT n λo q=>hs _ o hL q⟩
  eN:=S.eN,sub:=S.sub
  cells:=λy hy hr=>by obtain⟨c,iK,e,i,m⟩:=S.cells y hy hr;exact⟨c,iK,e,br i λo q=>hs _ o (ES c _ i) q,m⟩
  gb:=S.gb,free:=S.free,pe:=S.pe
  vars:=λy f d e=>by
   rw[Sg.get_set] at e
   by_cases q:y=x
   · rw[af q] at e
     cases e
     exact⟨_,q▸zq x _ va,a,tC,ds',rfl,ha,NP,rfl,hl,hsz,hr⟩
   · rw[aa q] at e
     obtain⟨v,lV,sl⟩:=S.vars y f d e
     refine⟨v,zq y v lV,?_⟩
     cases f with
     |false=>exact Rep.mono sl (λ_ p=>p) λb o p e=>hs b o (λz=>p (z▸NP)) e
     |true=>
      obtain⟨b,ws,es,f1,f2,K6,f3,f4,f5,f6⟩:=sl
      have hba:b≠a:=λz=>q (S.inj y x _ _ a e hx (by subst f1;subst z;exact lV) va)
      exact⟨b,ws,es,f1,f2,K6,f3,f4.at (λo e=>hs b o hba e),f5,f6.mono (λ_ p=>p) λb o p e=>hs b o (λz=>p (z▸NP)) e⟩
  inj:=λy z dy dz b e1 e2 v1 v2=>by
   have back: ∀y d,(σ.set x true (.list ds')).get y=some (true,d)-> ∃d',σ.get y=some (true,d'):=λy d e=>by
    rw[Sg.get_set] at e
    by_cases q:y=x
    · subst q;exact⟨_,hx⟩
    · rw[aa q] at e;exact⟨_,e⟩
   obtain⟨d1,NQ⟩:=back y dy e1
   obtain⟨d2,tR⟩:=back z dz e2
   obtain⟨w1,va1,_⟩:=S.vars y _ _ NQ
   obtain⟨w2,va2,_⟩:=S.vars z _ _ tR
   have q1:=(zq y w1 va1).det v1
   have q2:=(zq z w2 va2).det v2
   subst q1;subst q2
   exact S.inj y z d1 d2 b NQ tR va1 va2}
theorem St.uR{x:Str}{a:Addr}{vs tC:Array Value}{ds ds':List D}{h':Heap}{t:Nat}(S:St C sc ro env h₀ σ own s)(hx:σ.get x=some (true,.list ds))(va:cg env s.heap x (.ref a))(ha:a∈own.mu)(hp:PlainL s.heap a vs)
 (hs:Heap.SameBut a s.heap h') (hl:PlainL h' a tC) (hsz:tC.size<=sizeLine) (hr:aU C.wc s.heap (λb=>b∉own.av) tC.toList ds'):St C sc ro env h₀ (σ.set x true (.list ds')) own {s with heap:=h',toks:=t}:=
 S.zy (s':={s with heap:=h',toks:=t}) hx va ha hp (λb o hb e=>(hs.2 b hb).trans e) hl hsz (aU.sameBut hr hs (S.sub _ ha))
theorem nX{x:Str}{pos:Pos}{v:Value}{M:Model}{Q:Value->Shared->Prop}{E:Value->Shared->Prop}(S:St C sc ro env h₀ σ own s)(va:cg env s.heap x v)(hd:(x==("__debug__" :Str))=false)(h:Q v s):wpAny M A (eval (.Name x pos) env) Q E s:=by
 have hkind:env.scope.kind= .function:=by rw[S.scope];exact S.kind
 refine wpAny_Name ?_ hd
 rcases va with⟨kx,m,n,e⟩|⟨kx|⟨kx,hq⟩,c,e,n⟩
 · exact lT hkind kx n e h
 · exact wpAny_loadName_cell hkind kx e n h
 · exact wpAny_loadName_free hkind kx e n h hq
theorem wC(o:Obj)(f:Array Value->Array Value):(o.mapSeq f).dict=o.dict:=by
 obtain⟨c,d,dt,sl⟩:=o
 cases dt<;>rfl
theorem PlainL.turn{h:Heap}{l:Addr}{vs:Array Value}(f:Array Value->Array Value)(hl:PlainL h l vs):PlainL (h.update l (Obj.mapSeq f)) l (f vs):=by
 obtain⟨o,n,ho,hc,AM,hd⟩:=hl
 obtain⟨n',nW⟩:=Obj.data_mapSeq hd f
 exact⟨_,n',Heap.get?_update_self _ ho (Obj.isFreed_of_seq nW),(Obj.cls_mapSeq ..).trans hc,(wC _ _).trans AM,nW⟩
theorem tV{prog:Program}{w:World}{E:Value->Shared->Prop}{l:Addr}{vs:Array Value}{x:Value}{Q:Value->Shared->Prop}(hl:PlainL s.heap l vs)
 (hQ: ∀h',PlainL h' l (vs.push x)->Heap.SameBut l s.heap h'->Q .none {s with heap:=h'}) (hsz:vs.size<=sizeLine):wpAny (model prog w) A (PySem.call (.builtin "list.append") [.ref l,x]) Q E s:=by
 refine bk λG hG=>?_
 obtain⟨o,n,ho,hc,AM,hd⟩:=id hl
 refine hG ?_;clear hG G
 refine wpAny_call_entry slot_list_append hl.isList.typeIs entry_list_append ?_ (args_list_append _ _)
 show wpAny _ _ (updateSeq l (·.push x)>>=λ_=>PySem.ret .none) _ _ s
 refine ao ?_
 exact wpAny_updateSeq ho hd (aJ ⟨.none,rfl,hQ _ (PlainL.turn (·.push x) hl) (Heap.SameBut.update ..)⟩)
theorem yg{prog:Program}{w:World}{E:Value->Shared->Prop}{l:Addr}{vs:Array Value}{i:Int}{t:Tok}{v:Value}{Q:Unit->Shared->Prop}(hl:PlainL s.heap l vs)(h0:0<=i)(hn:i<vs.size)(K7:i<2 ^63)(hsz:vs.size<=sizeLine)
 (hQ: ∀h',PlainL h' l (vs.setIfInBounds i.toNat v)->Heap.SameBut l s.heap h'->Q () {s with heap:=h'}):wpAny (model prog w) A (PySem.setItem (.ref l) (.int i t) v) Q E s:=by
 refine bk λG hG=>?_
 obtain⟨o,n,ho,hc,AM,hd⟩:=id hl
 refine hG ?_;clear hG G
 have EU:=hl.isList.typeIs
 unfold PySem.setItem
 try with_reducible refine dZ ?_
 first|refine ao (aJ ?_)|skip
 refine ao (wpAny_sequenceKey EU (by decide) ?_)
 refine ao (wpAny_callSpecial?_slot (name:=Str.ofString "__setitem__") EU slot_list_setitem (wpAny_call_entry slot_list_setitem EU entry_list_setitem ?_ (args_list_setitem _ _ _)))
 show wpAny _ _ (Builtin.List.listSubscript? (.int i t)>>=_) _ _ s
 refine ao (wpAny_listSubscript_int (fitsIndex_of h0 K7) ?_)
 clear K7
 obtain⟨j,rfl⟩:=Int.eq_ofNat_of_zero_le h0
 have hj:j<vs.size:=RQ hn
 have hx:vs[j]? =some vs[j]:=zl hj
 show wpAny _ _ ((seqItemAt l j>>=λr=>pure (r.map (j,·)))>>=_) _ _ s
 refine ao (ao (wpAny_seqItemAt ho hd (aJ ?_)))
 rw[hx]
 show wpAny _ _ (setSeqItemAt l j v>>=_) _ _ s
 refine ao (wpAny_setSeqItemAt ho hd ?_)
 have fin:=hQ _ (PlainL.turn (·.setIfInBounds j v) hl) (Heap.SameBut.update ..)
 first
  |exact ao (aJ (aJ ⟨.none,rfl,aJ fin⟩))
  |exact aJ ⟨.none,rfl,aJ fin⟩
theorem aU.set{wc:Addr}{h:Heap}{Pr:Addr->Prop}: ∀{ds:List D} {vs:List Value} {i:Nat} {d:D} {v:Value},aU wc h Pr vs ds->Rep wc h Pr v d->aU wc h Pr (vs.set i v) (ds.set i d):=λ{ds}=>by
 induction ds with
 |nil=>intro vs i d v x _;subst x;exact rfl
 |cons e ds ih=>
  intro vs i d v x y
  obtain⟨w,r,rfl,a,b⟩:=x
  cases i with
  |zero=>exact⟨_,_,rfl,y,b⟩
  |succ i=>exact⟨_,_,rfl,a,ih b y⟩
theorem cH.append{x:Str}{px apos iM pos:Pos}{e:Expr}{ds:List D}{d:D}{md:Md}(hx:σ.get x=some (true,.list ds))(he:Ev C sc ro k σ e md d)(hm:d.sc=true \/md= .clean \/md= .fresh)(hsz:ds.length<sizeLine)
 (hp:P (σ.set x true (.list (ds++[d]))) .next)
 (cJ:autoParam (∀env,attributeBase (.Name x px) "append" env (eval (.Name x px) env)=eval (.Name x px) env) au)
 (rP:autoParam (∀env,((backTo iM (starEach [e] env)).all (λx=>!x.1)&&(backToKw iM (keywordEach [] env)).all (λx=>x.1.isSome)&&decide (([e]:List Expr).length+([]:List Keyword).length+(if([]:List Keyword).isEmpty then 0 else 1)<30))=true) au)
 (aF:autoParam ((apos.endLine==iM.line)=true) au) (rQ:autoParam (∀env,backTo iM (starEach [e] env)=[(false,eval e env)]) au) (vZ:autoParam ((x==("__debug__" :Str))=false) au):
 cH C sc ro k σ (.Expr (.Call (.Attribute (.Name x px) "append" apos) [e] [] iM) pos) P:=by
 intro A env h₀ own s Q r S q
 refine bk λG hG=>?_
 obtain⟨v,va,a,vs,ds',rfl,h1,kh,e3,h2,h3,h4⟩:=S.vars x _ _ hx
 refine hG ?_;clear hG G
 injection e3 with e3;subst e3
 have hi:interactive env=false:=by
  unfold interactive
  rw[S.scope,S.kind];rfl
 have hlen:=h4.length
 refine wpAny_Expr (wpAny_Call_append (cJ env) (rP env) aF (rQ env) (nX S va vZ ⟨a,vs,rfl,h2,he A env h₀ own s _ r S λw ah az rp=>?_⟩)) hi rfl
 have bE:=S.cX az
 have nO:PlainL ah.heap a vs:=h2.keeps λb o e=>az.get e
 have lV:=va.mono (h':=ah.heap) λb o e=>az.get e
 have vX:Rep C.wc ah.heap (λb=>b∉own.av) w d:=by
  rcases hm with hm|rfl|rfl
  · exact rp.dH hm
  · exact rp
  · exact rp.mono (λb hb hm=>by
     have:=S.alive b hm
     rw[show s.heap.get? b=none from hb] at this;cases this) λ_ _ _ e=>e
 have K8:aU C.wc ah.heap (λb=>b∉own.av) vs.toList ds:=h4.mono (λ_ p=>p) λb o _ e=>az.get e
 refine tV nO (λh' pQ nY=>?_) h3
 have bK:=bE.uR (t:=ah.toks) hx lV h1 nO nY pQ (by rw[Array.size_push,<-gV,hlen];exact hsz)
  (ds':=ds++[d]) (by rw[Array.toList_push];exact K8.append ⟨w,[],rfl,vX,rfl⟩)
 show Q Flow.next _
 exact q .next .next _ _ own ⟨λb o hb e=>(nY.2 b λz=>hb (z▸h1)).trans (az.get e),az.os,az.gens⟩ (λb hb _=>hb) (λb hb=>.inl hb) bK rfl hp
theorem cH.setItem{x:Str}{px ps pos:Pos}{ie e:Expr}{ds:List D}{d:D}{i:Int}{md:Md}(hx:σ.get x=some (true,.list ds))(hi:Ev C sc ro k σ ie .any (.int i))(he:Ev C sc ro k σ e md d)(hm:d.sc=true)
 (h0:0<=i) (hn:i<ds.length) (hp:P (σ.set x true (.list (ds.set i.toNat d))) .next)
 (hs: ∀env,env.scope=sc->swapsWith e (some (.Subscript (.Name x px) ie ps)) pos.line env=pure false:=by intro env h;cases env;cases h;rfl) (vZ:autoParam ((x==("__debug__" :Str))=false) au):
 cH C sc ro k σ (.Assign [.Subscript (.Name x px) ie ps] e pos) P:=by
 intro A env h₀ own s Q r S q
 refine wpAny_Assign_Subscript (he A env h₀ own s _ r S λw ah az rp=>?_) (hs env S.scope)
 have bE:=S.cX az
 refine bk λG hG=>?_
 obtain⟨v,va,a,vs,ds',rfl,h1,kh,e3,h2,h3,h4⟩:=bE.vars x _ _ hx
 refine hG ?_;clear hG G
 injection e3 with e3;subst e3
 have hlen:=h4.length
 refine nX bE va vZ (hi A env h₀ own ah _ r bE λiv aE a₂ ri=>?_)
 obtain⟨t,rfl⟩:=ri
 have bK:=bE.cX a₂
 have nO:PlainL aE.heap a vs:=h2.keeps λb o e=>a₂.get e
 have lV:=va.mono (h':=aE.heap) λb o e=>a₂.get e
 have K8:aU C.wc aE.heap (λb=>b∉own.av) vs.toList ds:=h4.mono (λ_ p=>p) λb o _ e=>a₂.get e
 have hsz:vs.size=ds.length:=by rw[<-hlen];simp
 have aF:sizeLine=16777216:=rfl
 refine yg nO h0 (T4 hsz hn) (V7 aF hsz h3 hn) h3 λh' pQ nY=>?_
 have aY:=az.trans a₂
 have dX:=bK.uR (t:=aE.toks) hx lV h1 nO nY pQ (by simpa using h3) (ds':=ds.set i.toNat d) (by
  rw[Array.toList_setIfInBounds]
  exact aU.set K8 (rp.dH hm))
 exact q .next .next _ _ own ⟨λb o hb e=>(nY.2 b λz=>hb (z▸h1)).trans (aY.get e),aY.os,aY.gens⟩ (λb hb _=>hb) (λb hb=>.inl hb) dX rfl hp
end
noncomputable def aL(C:Cx)(k:Nat)(a i d:D):Prop:=
 ∀(A:Around) (s:Shared) (va vi:Value) (Q:Value->Shared->Prop) (Pr:Addr->Prop),bH A k->C.B s.heap->Rep C.wc s.heap Pr va a->Rep C.wc s.heap (λ_=>True) vi i->
  (∀v s',cG s s'->Rep C.wc s'.heap (λz=>Pr z \/s.heap.get? z=none) v d->Q v s')->
  ∃T id,s.TypeIs va T/\ typeLookup (.type T) "__getitem__" =pure (some (.builtin id))/\ wpAny (model C.prog C.w) A (getItem va vi) Q (λ_ _=>False) s
section
variable{C:Cx}{sc:Scope}{ro:List Str}{k:Nat}{σ:Sg}{P:Sg->Fl->Prop}{A:Around}{env:Env}{h₀:Heap}{own:Ow}{s s':Shared}
theorem wp_operate{M:Model}{E:Value->Shared->Prop}{vs:List Value}{m:Sem Value}{Q:Value->Shared->Prop}(h:wpAny M A m Q E s):wpAny M A (operate vs m) Q E s:=wpAny_operating h
theorem yh{prog:Program}{w:World}{value slice:Expr}{o i:Value}{T id:String}{Q:Value->Shared->Prop}{E:Value->Shared->Prop}(hT:s.TypeIs o T)(hl:typeLookup (.type T) "__getitem__" =pure (some (.builtin id)))
 (h:wpAny (model prog w) A (getItem o i) Q E s):wpAny (model prog w) A (subscriptTail value slice o i) Q E s:=by
 unfold subscriptTail
 refine ao ?_
 rw[getitemInPython_of_ne hT.not_modules]
 refine ao (wpAny_specialOf hT hl ?_)
 have fin:wpAny (model prog w) A (subscripted slice false o i) (λr aV=>wpAny (model prog w) A (letTemporaryGo value o r>>=λ_=>pure r) Q E aV) E s:=by
  have g:wpAny (model prog w) A (getItem o i) (λr aV=>wpAny (model prog w) A (letTemporaryGo value o r>>=λ_=>pure r) Q E aV) E s:=
   aT h (λr aV tD=>ao (wpAny_letTemporaryGo (aJ tD))) λ_ _ x=>x
  cases slice with
  |Slice a b c p=>cases c<;>exact wp_operate g
  |_=>exact wp_operate g
 first
  |exact aJ (ao fin)
  |exact ao (aJ (ao fin))
  |exact ao fin
theorem St.yi(S:St C sc ro env h₀ σ own s)(md:Md){b:Addr}(n:s.heap.get? b=none):md.ok own s.heap b:=by
 cases md with
 |any=>trivial
 |clean=>
  intro hm
  have:=S.alive b hm
  rw[n] at this;cases this
 |fresh=>exact n
theorem Ev.sub{value slice:Expr}{pos:Pos}{a i d:D}{md:Md}(h1:Ev C sc ro k σ value md a)(h2:Ev C sc ro k σ slice .any i)(hg:aL C k a i d):Ev C sc ro k σ (.Subscript value slice pos) md d:=by
 intro A env h₀ own s Q r S q
 refine Subscript_ (h1 A env h₀ own s _ r S λva ah az ra=>?_)
 have bE:=S.cX az
 refine h2 A env h₀ own ah _ r bE λvi aE a₂ ri=>?_
 have aY:=az.trans a₂
 obtain⟨T,id,hT,hl,hw⟩:=hg A aE va vi Q (md.ok own s.heap) r (bE.cX a₂).B (Rep.ext ra λb o e=>a₂.get e) ri λv aV cL rv=>q v aV (aY.trans cL) (rv.mono (λb hb=>hb.elim id λn=>S.yi md (aY.none n)) λ_ _ _ e=>e)
 exact yh hT hl hw
theorem aL.list{ds:List D}{i:Int}{d:D}(hd:ds[i.toNat]? =some d)(h0:0<=i):aL C k (.list ds) (.int i) d:=by
 intro A s va vi Q Pr r B ra ri q
 obtain⟨a,vs,rfl,pa,hl,hs,hr⟩:=ra
 obtain⟨t,rfl⟩:=ri
 obtain⟨v,hv,rv⟩:=hr.get hd
 have jP:i.toNat<vs.size:=by
  obtain⟨h,_⟩:=iW.mp hv
  simpa using h
 have aF:sizeLine=16777216:=rfl
 refine⟨"list",_,hl.isList.typeIs,slot_list_getitem.lookup,wpAny_getItem_list hl.isList h0 (KG jP aF hs) (by simpa using hv) (q v s (aO.refl _ _) (rv.mono (λb hb=>.inl hb.1) λ_ _ _ e=>e))⟩
theorem aL.uS{ds:List D}{i:Int}{d:D}(hd:ds[(i+ds.length).toNat]? =some d)(h0:i<0)(h1: -(ds.length:Int)<=i):aL C k (.list ds) (.int i) d:=by
 intro A s va vi Q Pr r B ra ri q
 obtain⟨a,vs,rfl,pa,hl,hs,hr⟩:=ra
 obtain⟨t,rfl⟩:=ri
 obtain⟨v,hv,rv⟩:=hr.get hd
 have hlen:=hr.length
 have hsz:vs.size=ds.length:=by rw[<-hlen];simp
 have aF:sizeLine=16777216:=rfl
 refine⟨"list",_,hl.isList.typeIs,slot_list_getitem.lookup,wpAny_getItem_list_neg hl.isList h0 (Vg h1 hsz) (WB h1 aF hsz hs) (by rw[hsz];simpa using hv) (q v s (aO.refl _ _) (rv.mono (λb hb=>.inl hb.1) λ_ _ _ e=>e))⟩
theorem aL.tup{ds:List D}{i:Int}{d:D}(hd:ds[i.toNat]? =some d)(h0:0<=i):aL C k (.tup ds) (.int i) d:=by
 intro A s va vi Q Pr r B ra ri q
 obtain⟨a,vs,rfl,pa,hl,hs,hr⟩:=ra
 obtain⟨t,rfl⟩:=ri
 obtain⟨v,hv,rv⟩:=hr.get hd
 have jP:i.toNat<vs.size:=by
  obtain⟨h,_⟩:=iW.mp hv
  simpa using h
 have aF:sizeLine=16777216:=rfl
 have hj:seqIndex? i vs.size=some i.toNat:=by
  unfold seqIndex?
  simp only[]
  split<;>(try split)<;>(try omega)<;>(try rfl)
  all_goals (simp_all;try omega)
 refine⟨"tuple",_,hl.typeIs,slot_tuple_getitem.lookup,getItem_tuple hl (P_ h0) (KG jP aF hs) hj (by simpa using hv) (q v s (aO.refl _ _) (rv.mono (λb hb=>.inl hb.1) λ_ _ _ e=>e))⟩
theorem aL.str{x:Str}{i:Int}{c:Nat}(hc:x.cps[i.toNat]? =some c)(h0:0<=i):aL C k (.str x) (.int i) (.str ⟨#[c]⟩):=by
 intro A s va vi Q Pr r B ra ri q
 obtain⟨⟨t,rfl⟩,hx⟩:=ra
 obtain⟨u,rfl⟩:=ri
 have jP:i.toNat<x.cps.size:=by
  obtain⟨h,_⟩:=rC.mp hc
  exact h
 have ET:x.cps.size<=16777216:=hx
 have hj:seqIndex? i x.length=some i.toNat:=by
  unfold seqIndex?
  show(_:Option Nat)=_
  have:x.length=x.cps.size:=rfl
  rw[this]
  simp only[]
  split<;>(try split)<;>(try omega)<;>(try rfl)
  all_goals (simp_all;try omega)
 refine⟨"str",_,typeIs_str s x t,F.slot_str_getitem.lookup,PySem.P.getItem_str (by simp only[Bool.or_eq_false_iff,decide_eq_false_iff_not];exact WW jP h0 ET) (c:=c) (by rw[hj];exact hc) (q _ _ (cG.tok _ _) ⟨⟨_,rfl⟩,by show 1<=sizeLine;decide⟩)⟩
end
section
variable{C:Cx}{sc:Scope}{ro:List Str}{k:Nat}{σ:Sg}{P:Sg->Fl->Prop}{A:Around}{env:Env}{h₀:Heap}{own:Ow}{s s':Shared}
theorem rR{vs:List Value}{ds:List D}{Pr:Addr->Prop}(hr:aU C.wc s.heap Pr vs ds)(hsz:vs.length<=sizeLine)(t:Nat):
 Rep C.wc (s.heap.push {cls:=.type "list",data:=.seq vs.toArray}) (λb=>Pr b \/b=s.heap.objs.size) (.ref s.heap.objs.size) (.list ds):=
 ⟨_,vs.toArray,rfl,.inr rfl,⟨_,_,cV _ rfl,rfl,rfl,rfl⟩,by simpa using hsz,(aU.alive hr).mono (λb hb=>⟨.inl hb.1,λe=>by
   have:=hb.2;rw[e,bg] at this;cases this⟩) λb o _ e=>dh _ e⟩
theorem AN{vs:List Value}{ds:List D}{Pr:Addr->Prop}(hr:aU C.wc s.heap Pr vs ds)(hsz:vs.length<=sizeLine)(t:Nat):
 Rep C.wc (s.heap.push {cls:=.type "tuple",data:=.seq vs.toArray}) (λb=>Pr b \/b=s.heap.objs.size) (.ref s.heap.objs.size) (.tup ds):=
 ⟨_,vs.toArray,rfl,.inr rfl,⟨_,cV _ rfl,rfl,_,rfl⟩,by simpa using hsz,(aU.alive hr).mono (λb hb=>⟨.inl hb.1,λe=>by
   have:=hb.2;rw[e,bg] at this;cases this⟩) λb o _ e=>dh _ e⟩
theorem Ev.list{es:List Expr}{pos:Pos}{ds:List D}{md:Md}(h:Ar C sc ro k σ es md ds)(hsz:ds.length<=sizeLine):Ev C sc ro k σ (.List es pos) md (.list ds):=by
 intro A env h₀ own s Q r S q
 refine List_ (h.1 A env h₀ own s pos _ r S λvs ah az rp=>?_)
 have hlen:=rp.length
 refine wpAny_newObj_type (q _ _ (az.trans (cG.push ah _ ah.toks)) ((rR rp (J0 hlen hsz) 0).mono (λb hb=>hb.elim id λe=>S.yi md ?_) λ_ _ _ e=>e)) (by show vs.toArray.size<=sizeLine;rw[List.size_toArray];exact J0 hlen hsz)
 rw[e];exact az.none (bg _)
theorem Ev.tuple{es:List Expr}{pos:Pos}{kk:Nat}{ds:List D}{md:Md}(h:Ar C sc ro k σ es md ds)(hsz:ds.length<=sizeLine):Ev C sc ro k σ (.Tuple es kk pos) md (.tup ds):=by
 intro A env h₀ own s Q r S q
 refine Tuple_ (h.1 A env h₀ own s pos _ r S λvs ah az rp=>?_)
 have hlen:=rp.length
 refine wpAny_newObj_type (q _ _ (az.trans (cG.push ah _ ah.toks)) ((AN rp (J0 hlen hsz) 0).mono (λb hb=>hb.elim id λe=>S.yi md ?_) λ_ _ _ e=>e)) (by show vs.toArray.size<=sizeLine;rw[List.size_toArray];exact J0 hlen hsz)
 rw[e];exact az.none (bg _)
theorem ak.nZ{ds es:List D}(hd: ∀d∈ds++es,d.sc=true)(hsz:ds.length+es.length<=sizeLine):ak C k .Add (.list ds) (.list es) (.list (ds++es)):=by
 intro A s va vb Q rm B ra rb q
 obtain⟨a,vs,rfl,_,⟨⟨c1,d1,x1,s1⟩,n1,XJ,yj,BV,Jz⟩,hs1,NR⟩:=ra
 obtain⟨b,ws,rfl,_,⟨⟨c2,d2,x2,s2⟩,n2,ho2,BW,K9,hd2⟩,hs2,hr2⟩:=rb
 simp only at yj BV Jz BW K9 hd2
 subst yj BV Jz BW K9 hd2
 have l1:=NR.length
 have l2:=hr2.length
 have e1:vs.size=ds.length:=by rw[<-l1];simp
 have e2:ws.size=es.length:=by rw[<-l2];simp
 refine concat_meets ⟨_,XJ,rfl⟩ ⟨_,ho2,rfl⟩ noFill_list_add seq_list_add PySem.F.slot_list_add PySem.F.entry_list_add (PySem.F.args_list_add_2 _ _) (list_addW a b vs ws n1 n2 none none s1 s2 (Kz hsz e1 e2)) ⟨XJ,ho2,?_⟩
 have hr:aU C.wc s.heap (λz=>s.heap.get? z=none) (vs++ws).toList (ds++es):=by
  rw[Array.toList_append]
  exact aU.append (NR.dH λd h=>hd d (dY _ h)) (hr2.dH λd h=>hd d (b_ _ h))
 have fr:=rR (C:=C) (s:=s) hr (by rw[gV,Array.size_append];exact Kz hsz e1 e2) 0
 rw[Array.toArray_toList] at fr
 exact q _ _ (cG.push s _ s.toks) (fr.mono (λz hz=>hz.elim id λe=>by rw[e];exact bg _) λ_ _ _ e=>e)
theorem ak.gM{x y:Str}(hsz:x.length+y.length<=sizeLine):ak C k .Add (.str x) (.str y) (.str (x++y)):=by
 rintro A s va vb Q rm B ⟨⟨t,rfl⟩,hx⟩ ⟨⟨u,rfl⟩,hy⟩ q
 refine PyProof.Rows.add_str (λt' tk=>q _ _ (cG.tok _ _) ⟨⟨_,rfl⟩,?_⟩) hsz
 rw[gH];exact hsz
theorem ak.uT{x:Str}{n:Int}(ok:MulOk x n)(hl:(Txt.mul x n).length<=sizeLine):ak C k .Mult (.str x) (.int n) (.str (Txt.mul x n)):=by
 rintro A s va vb Q rm B ⟨⟨t,rfl⟩,hx⟩ ⟨u,rfl⟩ q
 exact PySem.SB.mul ok λt' tk=>q _ _ (cG.tok _ _) ⟨⟨_,rfl⟩,hl⟩
theorem aH.eqStr{x y:Str}:aH C k .Eq (.str x) (.str y) (x.cps.toList==y.cps.toList):=by
 rintro A s va vb Q rm B ⟨⟨t,rfl⟩,hx⟩ ⟨⟨u,rfl⟩,hy⟩ q
 exact PySem.P.eq_str (q _ _ (aO.refl _ _) rfl)
theorem aH.Gy{x y:Str}:aH C k .NotEq (.str x) (.str y) (x.cps.toList !=y.cps.toList):=by
 rintro A s va vb Q rm B ⟨⟨t,rfl⟩,hx⟩ ⟨⟨u,rfl⟩,hy⟩ q
 exact PySem.P.ne_str (q _ _ (aO.refl _ _) rfl)
theorem aA.blt{id:String}:aA C (.builtin id):=λh B=>⟨.machine,.inr (.inl rfl),.now⟩
theorem aA.typ{T:String}:aA C (.type T):=λh B=>⟨.machine,.inr (.inl rfl),.now⟩
theorem Fn.gm{ds:List D}:Fn C k (.builtin "len") [.list ds] (.int ds.length):=by
 rintro A s _ Q r B ⟨v,_,rfl,⟨a,vs,rfl,_,hl,hs,hr⟩,rfl⟩ q
 have l1:=hr.length
 have e1:vs.size=ds.length:=by rw[<-l1];simp
 have aF:sizeLine=16777216:=rfl
 rw[<-e1] at q
 exact aT (PySem.Calls.call_len_list hl.isList (OO aF hs) (q _ _ (cG.tok s _) ⟨_,rfl⟩)) (λ_ _ h=>h) λ_ _ h=>h
theorem Fn.Cc{x:Str}:Fn C k (.builtin "len") [.str x] (.int x.length):=by
 rintro A s _ Q r B ⟨v,_,rfl,⟨⟨t,rfl⟩,hx⟩,rfl⟩ q
 have aF:sizeLine=16777216:=rfl
 exact PySem.P.len_str (Vb aF hx) (q _ _ (cG.tok s _) ⟨_,rfl⟩)
end
section
variable{C:Cx}{sc:Scope}{ro:List Str}{k:Nat}{σ:Sg}{P:Sg->Fl->Prop}{A:Around}{env:Env}{h₀:Heap}{own:Ow}{s s':Shared}
theorem It.ofWalks{I:Addr}{fp:List Addr}{all:List D}{Pw:Nat->Value->Prop}{pC:Nat->Heap->Prop}{n:Nat}(W:Walks C.prog C.w A I fp [I] all.length Pw pC)(pA: ∀d∈all,d.sc=true)
 (hP: ∀j d v h,all[j]? =some d->Pw j v->Rep C.wc h (λ_=>True) v d) (nR: ∀i h,pC i h->(h.get? I).isSome=true):
 It C A I n (λb=>b∈fp) (λwr ds s=>wr=[I]/\ n<=s.gens.size/\ ∃i,ds=all.drop i/\ i<=all.length/\ pC i s.heap) where
 step:=λwr d ds s Q J q=>by
  obtain⟨hw,hg,i,e,hi,st⟩:=J
  subst hw
  have jP:i<all.length:=by
   apply Nat.lt_of_not_le
   intro h
   rw[List.drop_eq_nil_of_le h] at e;cases e
  rw[pD jP] at e
  injection e with e1 e2
  refine W.item i s Q _ jP st λv h' tk hp EV hk=>?_
  have rp:Rep C.wc h' (λ_=>True) v d:=hP i d v h' (by rw[e1];exact cE jP) hp
  have hd:d.sc=true:=pA d (by rw[e1];exact jy jP)
  refine q v _ λtarget Q' ht q'=>?_
  have al: ∀b∈[I],(h'.get? b).isSome=true:=λb hb=>by rw[ay.mp hb];exact nR _ _ EV
  have fin:=q' {s with heap:=h',toks:=tk} [I] ⟨λb o hb e=>hk b o hb e,rfl,aR _,λ_ _=>rfl,λh=>h⟩ (λb hb=>.inl hb) al al ⟨rfl,hg,i+1,e2,jP,EV⟩ rp
  have: ∃x p,target= .Name x p:=by
   cases d<;>first|exact ht|cases hd
  obtain⟨x,p,rfl⟩:=this
  show wpAny _ A (pure ()) Q' _ _
  exact aJ fin
 done:=λwr s Q J q=>by
  obtain⟨hw,hg,i,e,hi,st⟩:=J
  subst hw
  have:i=all.length:=by
   apply bh hi
   apply Nat.le_of_not_lt
   intro h
   rw[pD h] at e;cases e
  subst this
  exact W.done s Q _ st λh' tk hk=>q _ ⟨λb o hb e=>hk b o hb e,rfl,aR _,λ_ _=>rfl,λh=>h⟩
 frame:=λwr ds s s' mu J a uM=>by
  obtain⟨hw,hg,i,e,hi,st⟩:=J
  exact⟨hw,aX hg a.gens.1,i,e,hi,W.frame i _ _ st λb hb o e=>a.heap b o (λm=>(uM b m).1 hb) e⟩
 self:=λwr ds s Q J q=>by
  obtain⟨hw,hg,i,e,hi,st⟩:=J
  exact W.self i s Q _ st q
noncomputable def eS(a c:Int)(n:Nat):List D:=(List.range n).map λ(i:Nat)=>D.int (a+(i:Int)*c)
theorem mD(a c:Int)(n:Nat):(eS a c n).length=n:=by simp[eS]
theorem yk{a c:Int}{n j:Nat}{d:D}(h:(eS a c n)[j]? =some d):d= .int (a+(j:Int)*c):=by
 unfold eS at h
 rw[cM] at h
 obtain⟨i,hi,rfl⟩:=pL.mp h
 obtain⟨_,e⟩:=iW.mp hi
 rw[List.getElem_range] at e
 rw[e]
theorem It.range{I:Addr}{a c:Int}{n m:Nat}(hh:A.handled=none):
 It C A I m (λb=>b∈[I]) (λwr ds s=>wr=[I]/\ m<=s.gens.size/\ ∃i,ds=(eS a c n).drop i/\ i<=(eS a c n).length/\ IsRangeIter s.heap I (a+(i:Nat)*c) ((n:Int)-(i:Nat)) c):=by
 have W:=Walks.range (prog:=C.prog) (w:=C.w) hh I a c n
 rw[<-mD a c n] at W
 refine It.ofWalks (all:=eS a c n) (by simpa [mD] using W) (λd hd=>?_) (λj d v h e hp=>?_) (λi h st=>by rw[st];rfl)
 · obtain⟨i,_,rfl⟩:=aQ.mp hd;rfl
 · obtain⟨t,rfl⟩:=hp
   rw[yk e];exact⟨t,rfl⟩
end
noncomputable def ee(C:Cx)(k:Nat)(f:Value)(ds items:List D):Prop:=
 ∀(A:Around) (s:Shared) (vs:List Value) (n:Nat) (Pr:Addr->Prop) (Q:Value->Shared->Prop),bH A k->C.B s.heap->aU C.wc s.heap Pr vs ds->n<=s.gens.size->
  (∀I wr s' Ft J,cG s s'->(∀b∈wr,s.heap.get? b=none/\ (s'.heap.get? b).isSome=true)->It C A I n Ft J->J wr items s'->(∀b,Ft b->(Pr b \/s.heap.get? b=none)/\ (s'.heap.get? b).isSome=true)->Q (.ref I) s')->
  wpAny (model C.prog C.w) A (PySem.call f vs) (λx ah=>wpAny (model C.prog C.w) A (pyIter x) Q (λ_ _=>False) ah) (λ_ _=>False) s
section
variable{C:Cx}{sc:Scope}{ro:List Str}{k:Nat}{σ:Sg}{P:Sg->Fl->Prop}{A:Around}{env:Env}{h₀:Heap}{own:Ow}{s s':Shared}
theorem aN.call{func:Expr}{args:List Expr}{pos:Pos}{f:Value}{ds items:List D}(hf:aK C sc ro k σ func f)(ha:Ar C sc ro k σ args .clean ds)(hk:aA C f)(hc:ee C k f ds items)
 (he:autoParam (∀env,eval (.Call func args [] pos) env=(do callWith pos (<-eval func env) [] (backTo pos (starEach args env)) (backToKw pos (keywordEach [] env)))) au):
 aN C sc ro k σ (.Call func args [] pos) items:=by
 intro A env h₀ own s Q r S q
 rw[he]
 refine ao (hf A env h₀ own s _ r S λah az=>?_)
 refine callWith_of (P:=C.B) (by show((backTo pos (starEach args env)).any (·.1)||_)=false;rw[ha.2];rfl) hk ?_
 have bE:=S.cX az
 refine di (ha.2 env pos) (ha.1 A env h₀ own ah pos _ r bE λvs aE a₂ gK=>⟨(bE.cX a₂).B,?_⟩)
 have aY:=az.trans a₂
 refine hc A aE vs s.gens.size _ Q r (bE.cX a₂).B gK aY.gens.1 λI wr aV Ft J cL nK IT hJ BU=>q I wr aV Ft J (aY.trans cL) (λb hb=>⟨aY.none (nK b hb).1,(nK b hb).2⟩) IT hJ λb hb=>⟨λhm=>?_,(BU b hb).2⟩
 rcases(BU b hb).1 with h|h
 · exact h (S.sub b hm)
 · have:=S.alive b (S.sub b hm)
   rw[aY.none h] at this;cases this
theorem pR{a b c:Int}{t u v:Tok}{n:Nat}{m:Nat}{R:Addr}{Q:Value->Shared->Prop}{Pr:Addr->Prop}{bD:Shared}(r:bH A k)(wD:cG bD s)(hr:IsRange s.heap R a b c t u v)(mX:Builtin.Range.small a b c=true)(hn:Builtin.Range.rangeSize a b c=(n:Int))(hm:m<=bD.gens.size)
 (q: ∀I wr s' Ft J,cG bD s'->(∀b∈wr,bD.heap.get? b=none/\ (s'.heap.get? b).isSome=true)->It C A I m Ft J->J wr (eS a c n) s'->(∀b,Ft b->(Pr b \/bD.heap.get? b=none)/\ (s'.heap.get? b).isSome=true)->Q (.ref I) s'):
 wpAny (model C.prog C.w) A (pyIter (.ref R)) Q (λ_ _=>False) s:=by
 refine wpAny_pyIter_range hr mX ?_
 have hI:bD.heap.get? s.heap.objs.size=none:=wD.none (bg _)
 have al: ∀o,((s.heap.push {cls:=.type "range_iterator",data:=.fields o}).get? s.heap.objs.size).isSome=true:=λo=>by rw[cV _ rfl];rfl
 refine q _ [_] _ _ _ (wD.trans (cG.push s _ s.toks)) (λb hb=>by rw[ay.mp hb];exact⟨hI,al _⟩) (It.range (a:=a) (c:=c) (n:=n) r.1) ⟨rfl,aX hm wD.gens.1,0,rfl,gi _,?_⟩ λb hb=>?_
 · show Heap.get? _ _=_
   rw[cV _ rfl,hn]
   simp
 · rw[ay.mp hb]
   exact⟨.inr hI,al _⟩
theorem ee.HP{b:Int}{n:Nat}(mX:Builtin.Range.small 0 b 1=true)(hn:Builtin.Range.rangeSize 0 b 1=(n:Int)):ee C k (.type "range") [.int b] (eS 0 1 n):=by
 rintro A s _ m Pr Q r B ⟨v,_,rfl,⟨t,rfl⟩,rfl⟩ hm q
 exact call_range_1 (pR r (cG.push s _ _) (cV _ rfl) mX hn hm q)
theorem ee.HQ{a b:Int}{n:Nat}(mX:Builtin.Range.small a b 1=true)(hn:Builtin.Range.rangeSize a b 1=(n:Int)):ee C k (.type "range") [.int a,.int b] (eS a 1 n):=by
 rintro A s _ m Pr Q r B ⟨v,_,rfl,⟨t,rfl⟩,v',_,rfl,⟨t',rfl⟩,rfl⟩ hm q
 exact call_range_2 (pR r (cG.push s _ _) (cV _ rfl) mX hn hm q)
theorem ee.HR{a b c:Int}{n:Nat}(hc:c≠0)(hp:Builtin.divisionGoesByPylong (b-a) c=false)(mX:Builtin.Range.small a b c=true)(hn:Builtin.Range.rangeSize a b c=(n:Int)):ee C k (.type "range") [.int a,.int b,.int c] (eS a c n):=by
 rintro A s _ m Pr Q r B ⟨v,_,rfl,⟨t,rfl⟩,v',_,rfl,⟨t',rfl⟩,v'',_,rfl,⟨Gz,rfl⟩,rfl⟩ hm q
 exact call_range_3 hc (pR r (cG.push s _ _) (cV _ rfl) mX hn hm q) (.inl hp)
theorem aU.at'{wc:Addr}{h h':Heap}{Pr:Addr->Prop}{ds:List D}{vs:List Value}(hr:aU wc h Pr vs ds)(hs: ∀d∈ds,d.sc=true){j:Nat}{d:D}{v:Value}(hd:ds[j]? =some d)(hv:vs[j]? =some v):Rep wc h' (λ_=>True) v d:=by
 obtain⟨v',e,rp⟩:=hr.get hd
 rw[hv] at e;injection e with e;subst e
 exact rp.dH (hs d (pJ hd))
theorem aN.list{e:Expr}{ds:List D}(h:Ev C sc ro k σ e .clean (.list ds))(hs: ∀d∈ds,d.sc=true):aN C sc ro k σ e ds:=by
 intro A env h₀ own s Q r S q
 refine h A env h₀ own s _ r S λx ah az rp=>?_
 obtain⟨a,vs,rfl,pa,hl,hsz,hr⟩:=rp
 have hI:s.heap.get? ah.heap.objs.size=none:=az.none (bg _)
 have hlen:=hr.length
 have e1:vs.size=ds.length:=by rw[<-hlen];simp
 have iO:a≠ah.heap.objs.size:=fj hl.lt
 refine wpAny_pyIter_list hl.isList ?_
 have W:=Walks.list (prog:=C.prog) (w:=C.w) r.1 ah.heap.objs.size a iO vs
 rw[e1] at W
 have al: ∀o,((ah.heap.push {cls:=.type "list_iterator",data:=.fields o}).get? ah.heap.objs.size).isSome=true:=λo=>by rw[cV _ rfl];rfl
 refine q _ [_] _ _ _ (az.trans (cG.push ah _ ah.toks)) (λb hb=>by rw[ay.mp hb];exact⟨hI,al _⟩) (It.ofWalks (n:=s.gens.size) W hs (λj d v h e hv=>hr.at' hs e (by simpa using hv)) (λi h st=>by obtain⟨⟨o,ho,_⟩,_⟩:=st;rw[ho];rfl))
  ⟨rfl,az.gens.1,0,rfl,gi _,⟨_,cV _ rfl,rfl,rfl⟩,hl.isList.at λo e=>dh _ e⟩ λb hb=>?_
 rcases aB.mp hb with rfl|hb
 · exact⟨λhm=>(by have:=S.alive _ (S.sub _ hm);rw[hI] at this;cases this),al _⟩
 · rw[ay.mp hb]
   refine⟨λhm=>pa (S.sub _ hm),?_⟩
   obtain⟨o,_,ho,_⟩:=hl
   show(Heap.get? (ah.heap.push _) a).isSome=true
   rw[dh _ ho];rfl
theorem aN.tup{e:Expr}{ds:List D}(h:Ev C sc ro k σ e .clean (.tup ds))(hs: ∀d∈ds,d.sc=true):aN C sc ro k σ e ds:=by
 intro A env h₀ own s Q r S q
 refine h A env h₀ own s _ r S λx ah az rp=>?_
 obtain⟨a,vs,rfl,pa,hl,hsz,hr⟩:=rp
 have hI:s.heap.get? ah.heap.objs.size=none:=az.none (bg _)
 have hlen:=hr.length
 have e1:vs.size=ds.length:=by rw[<-hlen];simp
 have iO:a≠ah.heap.objs.size:=by obtain⟨o,ho,_⟩:=hl;exact fj (fY ho)
 refine wpAny_pyIter_tuple hl ?_
 have W:=Walks.tuple (prog:=C.prog) (w:=C.w) r.1 ah.heap.objs.size a iO vs
 rw[e1] at W
 have al: ∀o,((ah.heap.push {cls:=.type "tuple_iterator",data:=.fields o}).get? ah.heap.objs.size).isSome=true:=λo=>by rw[cV _ rfl];rfl
 refine q _ [_] _ _ _ (az.trans (cG.push ah _ ah.toks)) (λb hb=>by rw[ay.mp hb];exact⟨hI,al _⟩) (It.ofWalks (n:=s.gens.size) W hs (λj d v h e hv=>hr.at' hs e (by simpa using hv)) (λi h st=>by obtain⟨⟨o,ho,_⟩,_⟩:=st;rw[ho];rfl))
  ⟨rfl,az.gens.1,0,rfl,gi _,⟨_,cV _ rfl,rfl,rfl⟩,IsTup.push hl _⟩ λb hb=>?_
 rcases aB.mp hb with rfl|hb
 · exact⟨λhm=>(by have:=S.alive _ (S.sub _ hm);rw[hI] at this;cases this),al _⟩
 · rw[ay.mp hb]
   refine⟨λhm=>pa (S.sub _ hm),?_⟩
   obtain⟨o,ho,_⟩:=hl
   show(Heap.get? (ah.heap.push _) a).isSome=true
   rw[dh _ ho];rfl
noncomputable def signs(x:Str):List D:=x.cps.toList.map λc=>D.str ⟨#[c]⟩
theorem signs_get{x:Str}{j:Nat}{d:D}(h:(signs x)[j]? =some d): ∃c,x.cps[j]? =some c/\ d= .str ⟨#[c]⟩:=by
 unfold signs at h
 rw[cM] at h
 obtain⟨c,hc,rfl⟩:=pL.mp h
 exact⟨c,by simpa using hc,rfl⟩
theorem aN.str{e:Expr}{x:Str}(h:Ev C sc ro k σ e .any (.str x)):aN C sc ro k σ e (signs x):=by
 intro A env h₀ own s Q r S q
 refine h A env h₀ own s _ r S λv ah az rp=>?_
 obtain⟨⟨t,rfl⟩,hx⟩:=rp
 have hI:s.heap.get? ah.heap.objs.size=none:=az.none (bg _)
 have one: ∀(o:Obj) (pC:Nat->Heap->Prop),o.isFreed=false->Walks C.prog C.w A ah.heap.objs.size [ah.heap.objs.size] [ah.heap.objs.size] x.cps.size (SignAt x) pC->(∀i h,pC i h->(h.get? ah.heap.objs.size).isSome=true)->pC 0 (ah.heap.push o)->Q (.ref ah.heap.objs.size) {ah with heap:=ah.heap.push o}:=by
  intro o pC hf W nR st
  have al:((ah.heap.push o).get? ah.heap.objs.size).isSome=true:=by rw[cV _ hf];rfl
  have hlen:(signs x).length=x.cps.size:=by simp[signs]
  rw[<-hlen] at W
  refine q _ [_] _ _ _ (az.trans (cG.push ah _ ah.toks)) (λb hb=>by rw[ay.mp hb];exact⟨hI,al⟩) (It.ofWalks (n:=s.gens.size) W (λd hd=>?_) (λj d v h e hv=>?_) nR) ⟨rfl,az.gens.1,0,rfl,gi _,st⟩ λb hb=>?_
  · obtain⟨c,_,rfl⟩:=aQ.mp hd;rfl
  · obtain⟨c,hc,rfl⟩:=signs_get e
    obtain⟨c',u,qq,rfl⟩:=hv
    rw[hc] at qq;injection qq with qq;subst qq
    exact⟨⟨u,rfl⟩,by show 1<=sizeLine;decide⟩
  · rw[ay.mp hb]
    exact⟨λhm=>(by have:=S.alive _ (S.sub _ hm);rw[hI] at this;cases this),al⟩
 cases ha:x.cps.all (· <128)
 · exact wpAny_pyIter_wide ha (one _ _ rfl (Walks.strWide r.1 _ x t) (λi h st=>by obtain⟨o,ho,_⟩:=st;rw[ho];rfl) ⟨_,cV _ rfl,rfl,rfl⟩)
 · exact wpAny_pyIter_ascii ha (one _ _ rfl (Walks.strAscii r.1 _ x t) (λi h st=>by obtain⟨o,ho,_⟩:=st;rw[ho];rfl) ⟨_,cV _ rfl,rfl,rfl⟩)
end
noncomputable def fS(cs sc:Scope):Scope:={cs with names:=cs.names.map λ(n,k)=>if(k== .free&&sc.kind== .function&&sc.names.lookup n==some .cell) then(n,.cell) else(n,k)}
noncomputable def fT(cs:Scope):List Str:=(cs.names.filter λx=>x.2== .free).map (·.1)
noncomputable def cj(names:List (Str×NameKind))(σ:Sg):Sg:=names.filterMap λx=>if x.2== .free then(σ.get x.1).map λp=>(x.1,false,p.2) else none
theorem rS{cs sc:Scope}{env:Env}(h:env.scope=sc):relabel cs env=fS cs sc:=by
 delta relabel fS Env.kindOf
 rw[h]
theorem kC{σ:Sg}: ∀{names:List (Str×NameKind)} {y:Str} {f:Bool} {d:D},(cj names σ).get y=some (f,d)->f=false/\ (y,NameKind.free)∈names/\ ∃f',σ.get y=some (f',d):=λ{names}=>by
 induction names with
 |nil=>intro y f d h;cases h
 |cons p names ih=>
  intro y f d h
  obtain⟨n,kd⟩:=p
  have up:(cj names σ).get y=some (f,d)->f=false/\ (y,NameKind.free)∈(n,kd)::names/\ ∃f',σ.get y=some (f',d):=λh=>by
   obtain⟨h1,h2,h3⟩:=ih h
   exact⟨h1,.tail _ h2,h3⟩
  unfold cj at h
  rw[gG] at h
  cases hk:(kd==NameKind.free) with
  |false=>
   rw[hk] at h
   exact up h
  |true=>
   have wF:kd= .free:=by simpa using hk
   subst wF
   rw[hk] at h
   cases hg:σ.get n with
   |none=>
    rw[hg] at h
    exact up h
   |some p=>
    rw[hg] at h
    rcases Sg.bO h with⟨q,h⟩|⟨_,h⟩
    · cases h
      subst q
      exact⟨rfl,.head _,p.1,hg⟩
    · exact up h
theorem kD{sc:Scope}: ∀{names:List (Str×NameKind)} {y:Str},(names.map λ(n,k)=>if(k==NameKind.free&&sc.kind== .function&&sc.names.lookup n==some .cell) then(n,NameKind.cell) else(n,k)).lookup y=
 (names.lookup y).map λk=>if(k==NameKind.free&&sc.kind== .function&&sc.names.lookup y==some .cell) then NameKind.cell else k
 |[],_=>rfl
 |(n,k)::names,y=>by
  have ih:=kD (sc:=sc) (names:=names) (y:=y)
  show List.lookup y ((if(k==NameKind.free&&sc.kind== .function&&sc.names.lookup n==some .cell)=true then(n,NameKind.cell) else(n,k))::_)=Option.map _ (List.lookup y ((n,k)::names))
  cases q:(y==n) with
  |true=>
   have e:y=n:=by simpa using q
   subst e
   by_cases hc:(k==NameKind.free&&sc.kind== .function&&sc.names.lookup y==some .cell)=true
   · rw[af hc];simp only[ff,q,pM,hc,if_true]
   · rw[aa hc];simp only[ff,q,pM];rw[aa hc]
  |false=>
   by_cases hc:(k==NameKind.free&&sc.kind== .function&&sc.names.lookup n==some .cell)=true
   · rw[af hc];simp only[ff,q];exact ih
   · rw[aa hc];simp only[ff,q];exact ih
theorem uU(env:Env)(names:List (Str×NameKind)): ∀(acc:List (Str×Addr)),(∀x∈names,x.2= .free-> ∃c,env.cells.lookup x.1=some c)->(∀n c,acc.lookup n=some c->env.cells.lookup n=some c)->
 ∃cl:List (Str×Addr),(forIn names acc λx r=>if(x.2==NameKind.free)=true then(do let a<-cellOf env x.1;pure (ForInStep.yield ((x.1,a)::r)):Sem _) else pure (ForInStep.yield r))=pure cl/\
  (∀n c,cl.lookup n=some c->env.cells.lookup n=some c)/\ (∀n c,acc.lookup n=some c->(cl.lookup n).isSome=true)/\ (∀n,(n,NameKind.free)∈names->(cl.lookup n).isSome=true):=by
 induction names with
 |nil=>intro acc _ h2;exact⟨acc,rfl,h2,λn c e=>by rw[e];rfl,λn h=>nomatch h⟩
 |cons p names ih=>
  intro acc h1 h2
  obtain⟨n,kd⟩:=p
  cases hk:(kd==NameKind.free) with
  |false=>
   refine bk λG hG=>?_
   refine bk λG hG=>?_
   obtain⟨cl,e,a,b,c⟩:=ih acc (λx hx=>h1 x (.tail _ hx)) h2
   refine hG ?_;clear hG G
   refine hG ?_;clear hG G
   refine⟨cl,?_,a,b,λm hm=>?_⟩
   · rw[List.forIn_cons]
     simp only[hk,wo,if_false]
     exact e
   · rcases aB.mp hm with q|hm
     · cases q;simp at hk
     · exact c m hm
  |true=>
   have wF:kd= .free:=by simpa using hk
   subst wF
   obtain⟨ca,hca⟩:=h1 (n,.free) (.head _) rfl
   obtain⟨cl,e,a,b,c⟩:=ih ((n,ca)::acc) (λx hx=>h1 x (.tail _ hx)) (λm c hm=>by
    rw[ff] at hm
    by_cases q:(m==n)=true
    · rw[q] at hm;injection hm with hm;subst hm
      have:m=n:=by simpa using q
      rw[this];exact hca
    · have q':(m==n)=false:=by simpa using q
      rw[q'] at hm;exact h2 m c hm)
   refine⟨cl,?_,a,λm c hm=>?_,λm hm=>?_⟩
   · rw[List.forIn_cons]
     have rO:cellOf env n=pure ca:=by unfold cellOf;rw[hca]
     simp only[hk,if_true,rO]
     exact e
   · by_cases q:(m==n)=true
     · exact b m ca (by simp only[ff,q])
     · have q':(m==n)=false:=by simpa using q
       exact b m c (by simp only[ff,q'];exact hm)
   · rcases aB.mp hm with q|hm
     · cases q
       exact b n ca (by rw[ff];simp)
     · exact c m hm
theorem kQ{cs:Scope}{env:Env}(h1: ∀x∈cs.names,x.2= .free-> ∃c,env.cells.lookup x.1=some c):
 ∃cl,closureFor cs env=pure cl/\ (∀n c,cl.lookup n=some c->env.cells.lookup n=some c)/\ (∀n,(n,NameKind.free)∈cs.names->(cl.lookup n).isSome=true):=by
 refine bk λG hG=>?_
 refine bk λG hG=>?_
 obtain⟨cl,e,a,_,c⟩:=uU env cs.names [] h1 (λn c h=>nomatch h)
 refine hG ?_;clear hG G
 refine hG ?_;clear hG G
 refine⟨cl,?_,a,c⟩
 unfold closureFor
 rw[<-bind_pure (pure cl),<-e]
section
variable{prog:Program}{w:World}{A:Around}{R:Result->Shared->Prop}{s:Shared}
theorem uV{elt target iter:Expr}{ifs:List Expr}{scope:Scope}{pos:Pos}{it acc:Value}{env:Env}(I:Nat->Shared->Prop)
 (turn: ∀n s,I n s->wpAny (model prog w) A (pyNext it) (λr ah=>match r with
   |none=>R (.ok .next) ah
   |some v=>wpAny (model prog w) A (letOwnedTupleGo target it v) (λ_ n_=>wpAny (model prog w) A (PySem.assign target env v) (λ_ aE=>
    wpAny (model prog w) A (forIn ifs true λc r=>if r=true then do let ok<-isTrue c env (eval c env);pure (ForInStep.yield ok) else pure (ForInStep.yield r)) (λok aV=>
     if ok=true then wpAny (model prog w) A (eval elt env) (λx cP=>
      wpAny (model prog w) A (PySem.call (.builtin "list.append") [acc,x]) (λ_ cR=>∃m,m<n/\ I m cR) (λ_ _=>False) cP) (λ_ _=>False) aV
     else ∃m,m<n/\ I m aV) (λ_ _=>False) aE) (λ_ _=>False) n_) (λ_ _=>False) ah) (λ_ _=>False) s)
 (n:Nat) (h:I n s):codeAny (model prog w) A (.compLoop (.ListComp elt [⟨target,iter,ifs,0⟩] scope pos) 0 it acc env) R s:=by
 refine codeAny_loop rfl I (λn s hI=>?_) n h
 show wpAny _ A ((compTurn (.ListComp elt [⟨target,iter,ifs,0⟩] scope pos) 0 it acc env).onRaise (λx=>do noteFrame x env;theTreesLotGoes x)) _ _ s
 refine wpAny_noted ?_
 rw[compTurn_list]
 refine ao (fM (ao (aT (turn n s hI) (λr ah bX=>?_) λ_ _ h'=>h'.elim)))
 cases r with
 |none=>exact aJ bX
 |some v=>
  refine ao (aT bX (λ_ n_ K_=>?_) λ_ _ h'=>h'.elim)
  refine ao (aT K_ (λ_ aE oh=>ao (aT oh (λok aV tD=>?_) λ_ _ h'=>h'.elim)) λ_ _ h'=>h'.elim)
  cases ok with
  |false=>exact aJ ⟨rfl,tD⟩
  |true=>
   exact ao (ao (aT tD (λx cP XK=>ao (aT XK (λ_ cR XM=>aJ (aJ ⟨rfl,XM⟩)) λ_ _ h'=>h'.elim)) λ_ _ h'=>h'.elim))
end
section
variable{C:Cx}{sc:Scope}{ro:List Str}{k:Nat}{σ:Sg}{P:Sg->Fl->Prop}{A:Around}{env:Env}{h₀:Heap}{own:Ow}{s s':Shared}
noncomputable def jn(C:Cx)(cs:Scope)(ro:List Str)(k:Nat)(σ:Sg)(ifs:List Expr)(elt:Expr):Option D->Prop
 |none=>∃t,ifs=[t]/\ Te C cs ro k σ t false
 |some d=>(ifs=[] \/ ∃t,ifs=[t]/\ Te C cs ro k σ t true)/\ Ev C cs ro k σ elt .fresh d
theorem EW{M:Model}{Q:Bool->Shared->Prop}{E:Value->Shared->Prop}(h:Q true s):wpAny M A (forIn ([]:List Expr) true λc r=>if r=true then do let ok<-isTrue c env (eval c env);pure (ForInStep.yield ok) else pure (ForInStep.yield r)) Q E s:=by
 rw[List.forIn_nil]
 exact aJ h
theorem zz{M:Model}{Q:Bool->Shared->Prop}{E:Value->Shared->Prop}{t:Expr}(h:wpAny M A (isTrue t env (eval t env)) Q E s):wpAny M A (forIn [t] true λc r=>if r=true then do let ok<-isTrue c env (eval c env);pure (ForInStep.yield ok) else pure (ForInStep.yield r)) Q E s:=by
 rw[List.forIn_cons]
 simp only[if_true]
 refine ao (ao (aT h (λb ah bX=>aJ ?_) λ_ _ h=>h))
 exact aJ bX
theorem St.zA{cs:Scope}(S:St C sc ro env h₀ σ own s)(hfree: ∀y∈cs.names,y.2= .free-> ∃f d,σ.get y.1=some (f,d)/\ (sc.names.lookup y.1=some .cell \/sc.names.lookup y.1=some .free)):
 ∀y∈cs.names,y.2= .free-> ∃c v,env.cells.lookup y.1=some c/\ s.heap.IsCell c (some v)/\ (env.kindOf y.1=some .cell \/(env.kindOf y.1=some .free/\ (y.1==("__classdict__" :Str))=false))/\ ∀f d,σ.get y.1=some (f,d)->Rep C.wc s.heap (λ_=>True) v d:=by
 intro y hy La
 obtain⟨f,d,hg,wF⟩:=hfree y hy La
 obtain⟨v,va,sl⟩:=S.vars _ _ _ hg
 have Lb:env.kindOf y.1=sc.names.lookup y.1:=by unfold Env.kindOf;rw[S.scope]
 rcases va with⟨kl,_⟩|⟨kc,c,e,n⟩
 · rw[Lb] at kl
   rcases wF with h|h<;>rw[h] at kl<;>cases kl
 · exact⟨c,v,e,n,kc,λf' d' zB=>by rw[hg] at zB;cases zB;exact sl.rep⟩
theorem mY{cs:Scope}{y:Str}:y∈fT cs↔(y,NameKind.free)∈cs.names:=by
 constructor
 · intro h
   unfold fT at h
   obtain⟨⟨n,kd⟩,hm,rfl⟩:=aQ.mp h
   obtain⟨h1,h2⟩:=fh.mp hm
   have:kd= .free:=by simpa using h2
   exact this▸h1
 · intro h
   exact aQ.mpr ⟨(y,.free),fh.mpr ⟨h,rfl⟩,rfl⟩
theorem tW{cs sc:Scope}{y:Str}(h:((cs.names.lookup y).map λk=>if(k==NameKind.free&&sc.kind== .function&&sc.names.lookup y==some .cell) then NameKind.cell else k)=some .cell \/((cs.names.lookup y).map λk=>if(k==NameKind.free&&sc.kind== .function&&sc.names.lookup y==some .cell) then NameKind.cell else k)=some .free):(y,NameKind.free)∈cs.names \/(y,NameKind.cell)∈cs.names:=by
 cases hl:cs.names.lookup y with
 |none=>rw[hl] at h;rcases h with h|h<;>cases h
 |some kd=>
  have hm:(y,kd)∈cs.names:=by
   obtain⟨uN,yf,e,_⟩:=ly.mp hl
   rw[e];simp
  rw[hl] at h
  simp only[pM] at h
  by_cases hc:(kd==NameKind.free&&sc.kind== .function&&sc.names.lookup y==some .cell)=true
  · simp only[cY] at hc
    have:kd= .free:=by simpa using hc.1.1
    exact .inl (this▸hm)
  · rw[aa hc] at h
    rcases h with h|h
    · cases h;exact .inr hm
    · cases h;exact .inl hm
theorem St.wG{cs:Scope}{y:Str}{p:Prop}(S:St C sc ro env h₀ σ own s)(wH:cs.names.lookup y=some .free)(wF:env.kindOf y=some .cell \/(env.kindOf y=some .free/\ p)):((cs.names.lookup y).map λk=>if(k==NameKind.free&&sc.kind== .function&&sc.names.lookup y==some .cell) then NameKind.cell else k)=some .cell \/(((cs.names.lookup y).map λk=>if(k==NameKind.free&&sc.kind== .function&&sc.names.lookup y==some .cell) then NameKind.cell else k)=some .free/\ p):=by
 rw[wH]
 simp only[pM]
 by_cases hc:((NameKind.free==NameKind.free)&&sc.kind== .function&&sc.names.lookup y==some .cell)=true
 · rw[af hc];exact .inl rfl
 · rw[aa hc]
   refine .inr ⟨rfl,?_⟩
   rcases wF with wF|wF
   · exfalso
     apply hc
     have Lb:sc.names.lookup y=some .cell:=by
      have:env.kindOf y=sc.names.lookup y:=by unfold Env.kindOf;rw[S.scope]
      rw[<-this];exact wF
     rw[Lb,S.kind];rfl
   · exact wF.2
theorem slot_of{wc:Addr}{h h':Heap}{al mu:List Addr}{v:Value}{d:D}(r:Rep wc h (λ_=>True) v d)(hf: ∀b∈al,h.get? b=none)(hk: ∀b o,h.get? b=some o->h'.get? b=some o):Slot wc h' ⟨al,mu⟩ false v d:=
 (Rep.alive r).mono (λb hb hm=>by have h2:=hb.2;rw[hf b hm] at h2;cases h2) λb o _ e=>hk b o e
theorem St.comp{cs:Scope}{cl:List (Str×Addr)}{CC DD:Addr}{wr:List Addr}{bX:Heap}{t:Nat}{m:Str->Option Value}{a₂:Shared}(S:St C sc ro env h₀ σ own s)(hkind:cs.kind= .function)(hcell: ∀y∈cs.names,y.2≠.cell)(hnames: ∀y∈cs.names,cs.names.lookup y.1=some y.2)
 (hfree: ∀y∈cs.names,y.2= .free-> ∃f d,σ.get y.1=some (f,d)/\ (sc.names.lookup y.1=some .cell \/sc.names.lookup y.1=some .free))
 (jJ: ∀n c,cl.lookup n=some c->env.cells.lookup n=some c) (rT: ∀n,(n,NameKind.free)∈cs.names->(cl.lookup n).isSome=true)
 (hk: ∀b o,s.heap.get? b=some o->bX.get? b=some o) (fC:s.heap.get? CC=none) (fI: ∀b∈wr,s.heap.get? b=none) (fD:s.heap.get? DD=none)
 (hC:bX.Ns CC m) (aI: ∀b∈wr,(bX.get? b).isSome=true) (aD:(bX.get? DD).isSome=true):
 St C (fS cs sc) (fT cs) (compEnvC cs cl CC env) s.heap (cj cs.names σ) ⟨CC::DD::wr,[CC]⟩ {a₂ with heap:=bX,toks:=t}:=by
 have gk:=S.zA hfree
 have rU:(compEnvC cs cl CC env).scope=fS cs sc:=rS S.scope
 have AO: ∀y,(compEnvC cs cl CC env).kindOf y=(cs.names.lookup y).map λk=>if(k==NameKind.free&&sc.kind== .function&&sc.names.lookup y==some .cell) then NameKind.cell else k:=λy=>by
  unfold Env.kindOf
  rw[rU]
  exact kD
 have uW: ∀{y:Str},((compEnvC cs cl CC env).kindOf y=some .cell \/(compEnvC cs cl CC env).kindOf y=some .free)->y∈fT cs:=λ{y} h=>by
  rw[AO] at h
  exact mY.mpr ((tW h).elim id λm=>absurd rfl (hcell _ m))
 have EX: ∀b∈CC::DD::wr,s.heap.get? b=none:=λb hb=>by
  rcases aB.mp hb with rfl|hb
  · exact fC
  · rcases aB.mp hb with rfl|hb
    · exact fD
    · exact fI _ hb
 exact{
  scope:=rU
  kind:=hkind
  glob:=S.glob
  blt:=S.blt
  base:=S.B
  keep:=hk
  fresh:=EX
  alive:=λb hb=>by
   rcases aB.mp hb with rfl|hb
   · obtain⟨_,_,_,q,_⟩:=hC
     show(bX.get? _).isSome=true
     rw[q];rfl
   · rcases aB.mp hb with rfl|hb
     · exact aD
     · exact aI _ hb
  ns:=⟨m,hC⟩
  eN:=.head _
  sub:=λb hb=>by rw[ay.mp hb];exact .head _
  cells:=λx hx hr=>absurd (uW (.inl hx)) hr
  gb:=λx y c hx hr=>absurd (uW (.inl hx)) hr
  free:=λx hx=>uW (.inr hx)
  pe:=λx c hx hc=>by
   refine bk λG hG=>?_
   obtain⟨c',v,e,⟨o,ho,_⟩,_⟩:=gk _ (mY.mp hx) rfl
   refine hG ?_;clear hG G
   have:=jJ x c hc
   rw[this] at e;injection e with e;subst e
   rw[ho];rfl
  vars:=λx f d e=>by
   refine bk λG hG=>?_
   obtain⟨rfl,hm,f',hg⟩:=kC e
   obtain⟨c,v,ec,ic,wF,hr⟩:=gk _ hm rfl
   refine hG ?_;clear hG G
   have wH:=hnames _ hm
   have hq:cl.lookup x=some c:=by
    obtain⟨c',qq⟩:=c_.mp (rT x hm)
    have:=jJ x c' qq
    rw[ec] at this;injection this with this;subst this;exact qq
   exact⟨v,.inr ⟨by rw[AO];exact S.wG wH wF,c,hq,br ic λo q=>hk _ o q⟩,slot_of (hr _ _ hg) EX hk⟩
  inj:=λx y dx dy b e1=>by
   obtain⟨h,_⟩:=kC e1
   cases h}
end
section
variable{C:Cx}{sc:Scope}{ro:List Str}{k:Nat}{σ:Sg}{P:Sg->Fl->Prop}{A:Around}{env:Env}{h₀:Heap}{own:Ow}{s s':Shared}
structure CW(C:Cx)(cs:Scope)(ro:List Str)(env:Env)(σ:Sg)(upd:Sg->D->Sg)(J:List Addr->List D->Shared->Prop)(mu:List Addr)(CC DD:Addr)(g:D->Option D)(items:List D)(s s':Shared)(wr av:List Addr)(done rest:List D)(τ:Sg)(vs:Array Value):Prop where
 it:items=done++rest
 j:J wr rest s'
 sg:τ=σ \/ ∃d'∈items,τ=upd σ d'
 st:St C cs ro env s.heap τ ⟨av,mu⟩ s'
 ic:CC∈av
 id:DD∈av
 hw: ∀b∈wr,b∈av/\ b∉mu/\ b≠DD
 an:jh s.gens.size [] s s'
 hl:PlainL s'.heap DD vs
 sz:vs.size<=done.length
 rp:aU C.wc s'.heap (λb=>b∉av/\ s.heap.get? b=none) vs.toList (done.filterMap g)
theorem tX{elt target iter:Expr}{ifs:List Expr}{cs:Scope}{pos:Pos}{items:List D}(g:D->Option D)(upd:Sg->D->Sg){use:Option (Value->Sem Unit)}{Q:Value->Shared->Prop}{HS:List (Str×Addr)}{mu XN gn:List Addr}{CC DD I:Addr}{Ft:Addr->Prop}{J:List Addr->List D->Shared->Prop}{aV:Shared}
 (r:bH A k) (IT:It C A I s.gens.size Ft J) (hsz:items.length<=sizeLine)
 (kr: ∀(A:Around) (ji:Env) (h₀:Heap) (own:Ow) (s:Shared) (aq:Sg) (d:D) (v:Value) (Q:Unit->Shared->Prop),bH A k->St C (fS cs sc) (fT cs) ji h₀ aq own s->d∈items->Rep C.wc s.heap (λ_=>True) v d->
   (∀s',aO own.mu s s'->St C (fS cs sc) (fT cs) ji h₀ (upd aq d) own s'->Q () s')->wpAny (model C.prog C.w) A (PySem.assign target ji v) Q (λ_ _=>False) s)
 (ku: ∀d∈items,iZ target d)
 (pS: ∀d∈items,∀d'∈items,upd (upd (cj cs.names σ) d) d'=upd (cj cs.names σ) d')
 (helt: ∀d∈items,jn C (fS cs sc) (fT cs) k (upd (cj cs.names σ) d) ifs elt (g d))
 (q: ∀D Cl ah m,cG s ah->s.heap.get? D=none->s.heap.get? Cl=none->D≠Cl->ah.heap.Ns Cl m->Rep C.wc ah.heap (λb=>s.heap.get? b=none/\ b≠Cl) (.ref D) (.list (items.filterMap g))->
   compPost (model C.prog C.w) A (λ_ _=>False) use Q (.ref D) Cl (.ok .next) ah)
 (dX:St C (fS cs sc) (fT cs) (compEnvC cs HS CC env) s.heap (cj cs.names σ) ⟨XN,mu⟩ aV) (AP:J gn items aV) (iC0:CC∈mu) (iD0:DD∈XN) (hw0: ∀b∈gn,b∈XN/\ b∉mu/\ b≠DD) (hDM:DD∉mu) (HT: ∀b∈mu,¬Ft b) (nD: ¬Ft DD)
 (an0:jh s.gens.size [] s aV) (uX:PlainL aV.heap DD #[]) (EY:s.heap.get? DD=none) (HU:s.heap.get? CC=none) (tE:DD≠CC):
 codeAny (model C.prog C.w) A (.compStart (.ListComp elt [⟨target,iter,ifs,0⟩] cs pos) 0 (.ref I) (.ref DD) (compEnvC cs HS CC env)) (compPost (model C.prog C.w) A (λ_ _=>False) use Q (.ref DD) CC) aV:=by
 let W:Nat->Shared->Prop:=λn s'=>∃wr av done rest aq vs,n=rest.length/\ CW C (fS cs sc) (fT cs) (compEnvC cs HS CC env) (cj cs.names σ) upd J mu CC DD g items s s' wr av done rest aq vs
 have base:W items.length aV:=⟨gn,_,[],items,_,#[],rfl,rfl,AP,.inl rfl,dX,dX.sub CC iC0,iD0,hw0,an0,uX,aR _,rfl⟩
 have loop:codeAny (model C.prog C.w) A (.compLoop (.ListComp elt [⟨target,iter,ifs,0⟩] cs pos) 0 (.ref I) (.ref DD) (compEnvC cs HS CC env)) (compPost (model C.prog C.w) A (λ_ _=>False) use Q (.ref DD) CC) aV:=by
  refine uV W (λn cP hW=>?_) items.length base
  refine bk λG hG=>?_
  obtain⟨wr,av,done,rest,aq,vs,rfl,mZ,K1,NS,gf,iC,iD,hw,an,hl,tF,hr⟩:=hW
  refine hG ?_;clear hG G
  have HV: ∀b∈av,s.heap.get? b=none:=gf.fresh
  have upTo: ∀{cR:Shared} {mu:List Addr},jh s.gens.size mu cP cR->(∀z∈mu,z∈av)->jh s.gens.size [] s cR:=λ{cR mu} a h=>an.trans a λz hz=>.inr (HV z (h z hz))
  have JA: ∀b∈wr,b∈av:=λb hb=>(hw b hb).1
  have wmu: ∀b∈wr,b∉mu:=λb hb=>(hw b hb).2.1
  cases rest with
  |nil=>
   refine aT (IT.done wr cP (λr ah=>match r with
    |none=>compPost (model C.prog C.w) A (λ_ _=>False) use Q (.ref DD) CC (.ok .next) ah
    |some v=>False) K1 λcR a=>?_) (λo s' h=>by cases o with|none=>exact h|some v=>exact h.elim) λ_ _ h=>h.elim
   have b1:=upTo a JA
   have mT: ∃m,cR.heap.Ns CC m:=by
    obtain⟨m,n⟩:=gf.ns
    exact⟨m,cT n λo e=>a.heap _ o (λh=>(hw _ h).2.1 iC0) e⟩
   obtain⟨m,mT⟩:=mT
   rw[ez] at mZ
   subst mZ
   refine q DD CC cR m b1.toB EY HU tE mT ⟨DD,vs,rfl,⟨EY,tE⟩,hl.at (λo e=>a.heap _ o (λh=>(hw _ h).2.2 rfl) e),aX tF hsz,hr.mono (λb hb=>⟨⟨hb.2,λe=>hb.1 (e▸iC)⟩,λe=>hb.1 (e▸iD)⟩) λb o hb e=>a.heap b o (λz=>hb.1 (JA b z)) e⟩
  |cons d rest=>
   have hd:d∈items:=by rw[mZ];simp
   refine aT (IT.step wr d rest cP _ K1 λv aab lo=>?_) (λo s' h=>h) λ_ _ h=>h.elim
   refine aT (lo target _ (ku d hd) λcR wr' a w1 w2 w3 Lc rp=>?_) (λo s' h=>h) λ_ _ h=>h.elim
   have iF:=gf.jO a.heap JA wmu w2 w1 w3
   have b5:=upTo a JA
   have GA: ∀b,b∉av->(cP.heap.get? b).isSome=true->b∉wr'++av:=λb hb ha hm=>(bB.mp hm).elim (λh=>(w1 b h).elim (λh=>hb (JA b h)) λn=>by rw[n] at ha;cases ha) hb
   have Lf:PlainL cR.heap DD vs:=hl.at (λo e=>a.heap _ o (λh=>(hw _ h).2.2 rfl) e)
   have EZ: ∀b∈wr',b∈wr'++av/\ b∉mu/\ b≠DD:=λb hb=>by
    refine⟨dY _ hb,?_,?_⟩
    · refine(w1 b hb).elim (λh=>(hw b h).2.1) λn e=>?_
      have:=gf.alive b (gf.sub b e);rw[n] at this;cases this
    · refine(w1 b hb).elim (λh=>(hw b h).2.2) λn e=>?_
      have:=gf.alive DD iD;rw[<-e,n] at this;cases this
   have XO:CC∈wr'++av:=b_ _ iC
   have JB:DD∈wr'++av:=b_ _ iD
   have GB:aU C.wc cR.heap (λb=>b∉wr'++av/\ s.heap.get? b=none) vs.toList (done.filterMap g):=(aU.alive hr).mono (λb hb=>⟨GA b hb.1.1 hb.2,hb.1.2⟩) λb o hb e=>a.heap b o (λz=>hb.1.1 (JA b z)) e
   clear hr hl GA
   generalize uO:wr'++av=BS at iF EZ XO JB GB
   refine aT (kr A _ _ _ cR aq d v _ r iF hd rp λfF kF jk=>?_) (λo s' h=>h) λ_ _ h=>h.elim
   have hu:upd aq d=upd (cj cs.names σ) d:=by
    rcases NS with rfl|⟨d',nW,rfl⟩
    · rfl
    · exact pS d' nW d hd
   rw[hu] at jk
   have Lg:J wr' rest fF:=IT.frame wr' rest cR fF mu Lc kF λb hb=>⟨HT b hb,λh=>(EZ _ h).2.1 hb⟩
   have GC: ∀b o,b∉mu->cR.heap.get? b=some o->fF.heap.get? b=some o:=λb o hb e=>kF.heap b o hb e
   have GD:PlainL fF.heap DD vs:=Lf.at (λo e=>GC _ o hDM e)
   have GF:aU C.wc fF.heap (λb=>b∉BS/\ s.heap.get? b=none) vs.toList (done.filterMap g):=GB.mono (λ_ p=>p) λb o hb e=>GC b o (λz=>hb.1 (iF.sub b z)) e
   have g5:s.gens.size<=cR.gens.size:=b5.gens.1
   have b6:jh s.gens.size [] s fF:=b5.trans (kF.toN g5) λz hz=>.inr (iF.fresh z (iF.sub z hz))
   have g6:s.gens.size<=fF.gens.size:=b6.gens.1
   have uY:items=(done++[d])++rest:=by rw[mZ];simp
   have hg:=helt d hd
   cases JC:g d with
   |none=>
    rw[JC] at hg
    obtain⟨t,rfl,ht⟩:=hg
    refine zz (ht A _ _ _ fF _ r jk λqM qN=>?_)
    have Lh:jh s.gens.size [] fF qM:=qN.toN g6
    refine⟨rest.length,Nat.lt_succ_self _,wr',BS,done++[d],rest,_,vs,rfl,uY,IT.frame wr' rest fF qM [] Lg qN (λb hb=>nomatch hb),.inr ⟨d,hd,rfl⟩,jk.cX qN,XO,JB,EZ,b6.trans Lh (λz hz=>nomatch hz),
     GD.keeps (λb o e=>qN.get e),by rw[cF];exact aX tF (Nat.le_add_right _ _),?_⟩
    rw[pF]
    show aU _ _ _ _ (_++List.filterMap g [d])
    simp only[gG,JC,List.filterMap_nil,ez]
    exact GF.mono (λ_ p=>p) λb o _ e=>qN.get e
   |some e=>
    rw[JC] at hg
    obtain⟨hif,he⟩:=hg
    have main: ∀qM:Shared,cG fF qM->wpAny (model C.prog C.w) A (eval elt (compEnvC cs HS CC env)) (λx cP=>wpAny (model C.prog C.w) A (PySem.call (.builtin "list.append") [.ref DD,x]) (λ_ cR=>∃m,m<(d::rest).length/\ W m cR) (λ_ _=>False) cP) (λ_ _=>False) qM:=λqM qN=>by
     refine he A _ _ _ qM _ r (jk.cX qN) λx qO E0 rx=>?_
     have qV:=qN.trans E0
     have Li:PlainL qO.heap DD vs:=GD.keeps λb o e=>qV.get e
     have Lj:aU C.wc qO.heap (λb=>b∉BS/\ s.heap.get? b=none) vs.toList (done.filterMap g):=GF.mono (λ_ p=>p) λb o _ e=>qV.get e
     have HW:=jk.cX qV
     have b7:jh s.gens.size [] s qM:=b6.trans (qN.toN g6) λz hz=>nomatch hz
     have b8:jh s.gens.size [] s qO:=b7.trans (E0.toN b7.gens.1) λz hz=>nomatch hz
     have rx':Rep C.wc qO.heap (λb=>b∉BS/\ s.heap.get? b=none) x e:=by
      refine rx.mono (λb hb=>?_) λ_ _ _ e=>e
      have pT:qM.heap.get? b=none:=hb
      refine⟨λm=>?_,?_⟩
      · have:=(jk.cX qN).alive b m
        rw[pT] at this;cases this
      · cases z:s.heap.get? b with
        |none=>rfl
        |some o=>cases (b7.heap b o (λh=>nomatch h) z).symm.trans pT
     have hlen:items.length=done.length+1+rest.length:=by rw[uY];simp;exact Q97
     have zw:vs.size<=sizeLine:=Vh hlen tF hsz
     refine tV Li (λh' pQ nY=>?_) zw
     have NT: ∀b o,b≠DD->qO.heap.get? b=some o->h'.get? b=some o:=λb o hb e=>(nY.2 b hb).trans e
     have Lk:aO [DD] qO {qO with heap:=h'}:=⟨λb o hb e=>NT b o (λz=>hb (by simp[z])) e,rfl,bF.rfl'⟩
     have XQ:St C (fS cs sc) (fT cs) (compEnvC cs HS CC env) s.heap (upd (cj cs.names σ) d) ⟨BS,mu⟩ {qO with heap:=h'}:=HW.turn NT JB hDM (by obtain⟨o,_,ho,_⟩:=pQ;show(h'.get? DD).isSome=true;rw[ho];rfl)
     have XR:J wr' rest qO:=IT.frame wr' rest fF qO [] Lg qV λb hb=>nomatch hb
     refine⟨rest.length,Nat.lt_succ_self _,wr',BS,done++[d],rest,_,vs.push x,rfl,uY,IT.frame wr' rest qO _ [DD] XR Lk (λb hb=>?_),.inr ⟨d,hd,rfl⟩,XQ,XO,JB,EZ,b8.trans (Lk.toN b8.gens.1) (λz hz=>.inr ?_),pQ,?_,?_⟩
     · rw[ay.mp hb];exact⟨nD,λh=>(EZ _ h).2.2 rfl⟩
     · rw[ay.mp hz];exact EY
     · simp only[Array.size_push,cF];exact Nat.add_le_add tF (aR 1)
     · rw[pF,Array.toList_push]
       have:List.filterMap g [d]=[e]:=by simp only[gG,JC,List.filterMap_nil]
       rw[this]
       refine aU.append ?_ ⟨x,[],rfl,?_,rfl⟩
       · exact Lj.mono (λ_ p=>p) λb o hb e=>NT b o (λz=>hb.1 (z▸JB)) e
       · exact rx'.mono (λ_ p=>p) λb o hb e=>NT b o (λz=>hb.1 (z▸JB)) e
    rcases hif with rfl|⟨t,rfl,ht⟩
    · exact EW (main fF (aO.refl _ _))
    · exact zz (ht A _ _ _ fF _ r jk λqM qN=>main qM qN)
 refine codeAny_compStart_list loop ?_
 exact aT (IT.self gn items aV (λit' s'=>codeAny (model C.prog C.w) A (.compLoop (.ListComp elt [⟨target,iter,ifs,0⟩] cs pos) 0 it' (.ref DD) (compEnvC cs HS CC env)) (compPost (model C.prog C.w) A (λ_ _=>False) use Q (.ref DD) CC) s') AP loop) (λ_ _ h=>h) λ_ _ h=>h.elim
theorem tY{elt target iter:Expr}{ifs:List Expr}{cs:Scope}{pos:Pos}{items:List D}(g:D->Option D)(upd:Sg->D->Sg){use:Option (Value->Sem Unit)}{Q:Value->Shared->Prop}
 (r:bH A k) (S:St C sc ro env h₀ σ own s)
 (hit:aN C sc ro k σ iter items) (hsz:items.length<=sizeLine) (hkind:cs.kind= .function) (hcell: ∀y∈cs.names,y.2≠.cell) (hnames: ∀y∈cs.names,cs.names.lookup y.1=some y.2)
 (hfree: ∀y∈cs.names,y.2= .free-> ∃f d,σ.get y.1=some (f,d)/\ (sc.names.lookup y.1=some .cell \/sc.names.lookup y.1=some .free))
 (kr: ∀(A:Around) (ji:Env) (h₀:Heap) (own:Ow) (s:Shared) (aq:Sg) (d:D) (v:Value) (Q:Unit->Shared->Prop),bH A k->St C (fS cs sc) (fT cs) ji h₀ aq own s->d∈items->Rep C.wc s.heap (λ_=>True) v d->
   (∀s',aO own.mu s s'->St C (fS cs sc) (fT cs) ji h₀ (upd aq d) own s'->Q () s')->wpAny (model C.prog C.w) A (PySem.assign target ji v) Q (λ_ _=>False) s)
 (ku: ∀d∈items,iZ target d)
 (pS: ∀d∈items,∀d'∈items,upd (upd (cj cs.names σ) d) d'=upd (cj cs.names σ) d')
 (helt: ∀d∈items,jn C (fS cs sc) (fT cs) k (upd (cj cs.names σ) d) ifs elt (g d))
 (hs: ∀env x,foldedSetIterable iter env x=pure x)
 (q: ∀D Cl ah m,cG s ah->s.heap.get? D=none->s.heap.get? Cl=none->D≠Cl->ah.heap.Ns Cl m->Rep C.wc ah.heap (λb=>s.heap.get? b=none/\ b≠Cl) (.ref D) (.list (items.filterMap g))->
   compPost (model C.prog C.w) A (λ_ _=>False) use Q (.ref D) Cl (.ok .next) ah):
 wpAny (model C.prog C.w) A (comprehension (.ListComp elt [⟨target,iter,ifs,0⟩] cs pos) cs env (firstIterPos [⟨target,iter,ifs,0⟩] pos) (newList []) (firstAsync [⟨target,iter,ifs,0⟩]) (firstIter [⟨target,iter,ifs,0⟩] env) use) Q (λ_ _=>False) s:=by
 have gk: ∀y∈cs.names,y.2= .free-> ∃c,env.cells.lookup y.1=some c:=λy hy La=>(S.zA hfree y hy La).imp λ_ h=>h.elim λ_ h=>h.1
 obtain⟨cl,Cd,jJ,rT⟩:=kQ (cs:=cs) (env:=env) gk
 refine wpAny_comprehension_free (cl:=cl) rfl (hs env) Cd hkind (λy hy hl=>hl▸hnames y hy) (hit A env h₀ own s _ r S λI gn aE Ft J a₂ nK IT hJ BU=>?_)
 refine wpAny_newObj_type (wpAny_newFunctionEnv hcell (by intro y hy;simp at hy) (λbX m_ rV=>?_) hkind)
 dsimp only at m_ rV ⊢
 generalize HX:aE.heap.push {cls:=.type "list",dict:=none,data:=.seq ([]:List Value).toArray}=H2 at m_ rV ⊢
 have tG:H2.objs.size=aE.heap.objs.size+1:=by rw[<-HX,Heap.size_push]
 have tE:aE.heap.objs.size≠H2.objs.size:=by rw[tG];exact fj (Nat.lt_succ_self _)
 have old: ∀b o,aE.heap.get? b=some o->bX.get? b=some o:=λb o e=>rV.extBut b o (by rw[tG];exact fj (Nat.lt_succ_of_lt (fY e))) (dh _ (HX▸dh _ e))
 have E1:aE.heap.get? aE.heap.objs.size=none:=bg _
 have E2:aE.heap.get? H2.objs.size=none:=by
  cases e:aE.heap.get? H2.objs.size with
  |none=>rfl
  |some o=>
   have h3:=fY e
   rw[tG] at h3
   exact absurd (Nat.lt_of_succ_lt h3) (Nat.lt_irrefl _)
 have Ll:aE.heap.objs.size∉gn:=λe=>by have:=(nK _ e).2;rw[E1] at this;cases this
 have Lm:H2.objs.size∉gn:=λe=>by have:=(nK _ e).2;rw[E2] at this;cases this
 have uX:PlainL bX aE.heap.objs.size #[]:=⟨_,_,rV.extBut _ _ tE (dh _ (HX▸cV _ rfl)),rfl,rfl,rfl⟩
 clear tG
 generalize aE.heap.objs.size=DD at tE E1 Ll uX ⊢
 generalize H2.objs.size=CC at m_ rV tE E2 Lm ⊢
 have EY:s.heap.get? DD=none:=a₂.none E1
 have HU:s.heap.get? CC=none:=a₂.none E2
 have aI: ∀b∈gn,(bX.get? b).isSome=true:=λb hb=>by
  obtain⟨o,ho⟩:=c_.mp (nK b hb).2
  rw[old _ _ ho];rfl
 have aD:(bX.get? DD).isSome=true:=by obtain⟨o,_,ho,_⟩:=uX;rw[ho];rfl
 let aV:Shared:={aE with heap:=bX,toks:=aE.toks+([]:List (Str×Value)).length}
 have cL:cG aE aV:=⟨λb o _ e=>old b o e,rfl,bF.rfl'⟩
 have dX:St C (fS cs sc) (fT cs) (compEnvC cs cl CC env) s.heap (cj cs.names σ) ⟨CC::DD::gn,[CC]⟩ aV:=
  S.comp (a₂:=aE) hkind hcell hnames hfree jJ rT (λb o e=>old b o (a₂.get e)) HU (λb hb=>(nK b hb).1) EY m_ aI aD
 have JD: ∀b,aE.heap.get? b=none-> ¬Ft b:=λb hb f=>by have:=(BU b f).2;rw[hb] at this;cases this
 have AP:J gn items aV:=IT.frame gn items aE aV [] hJ cL λb hb=>nomatch hb
 exact tX (A:=A) (env:=env) (s:=s) g upd r IT hsz kr ku pS helt q dX AP (.head _) (.tail _ (.head _)) (λb hb=>⟨.tail _ (.tail _ hb),λe=>Lm (ay.mp e▸hb),λe=>Ll (e▸hb)⟩) (λm=>tE (ay.mp m)) (λb hb=>by rw[ay.mp hb];exact JD _ E2) (JD _ E1)
  (aO.toN (aO.trans a₂ cL λz hz=>nomatch hz) (aR _)) uX EY HU tE
end
section
variable{C:Cx}{sc:Scope}{ro:List Str}{k:Nat}{σ:Sg}{P:Sg->Fl->Prop}{A:Around}{env:Env}{h₀:Heap}{own:Ow}{s s' bD:Shared}
structure cC(C:Cx)(sc:Scope)(ro:List Str)(k:Nat)(σ:Sg)(elt target iter:Expr)(ifs:List Expr)(cs:Scope)(items:List D)(g:D->Option D)(upd:Sg->D->Sg):Prop where
 hit:aN C sc ro k σ iter items
 hsz:items.length<=sizeLine
 hkind:cs.kind= .function
 hcell: ∀y∈cs.names,y.2≠.cell
 hnames: ∀y∈cs.names,cs.names.lookup y.1=some y.2
 hfree: ∀y∈cs.names,y.2= .free-> ∃f d,σ.get y.1=some (f,d)/\ (sc.names.lookup y.1=some .cell \/sc.names.lookup y.1=some .free)
 kr: ∀(A:Around) (ji:Env) (h₀:Heap) (own:Ow) (s:Shared) (aq:Sg) (d:D) (v:Value) (Q:Unit->Shared->Prop),bH A k->St C (fS cs sc) (fT cs) ji h₀ aq own s->d∈items->Rep C.wc s.heap (λ_=>True) v d->
  (∀s',aO own.mu s s'->St C (fS cs sc) (fT cs) ji h₀ (upd aq d) own s'->Q () s')->wpAny (model C.prog C.w) A (PySem.assign target ji v) Q (λ_ _=>False) s
 ku: ∀d∈items,iZ target d
 pS: ∀d∈items,∀d'∈items,upd (upd (cj cs.names σ) d) d'=upd (cj cs.names σ) d'
 helt: ∀d∈items,jn C (fS cs sc) (fT cs) k (upd (cj cs.names σ) d) ifs elt (g d)
 hs: ∀env x,foldedSetIterable iter env x=pure x
section
variable{elt target iter:Expr}{ifs:List Expr}{cs:Scope}{pos:Pos}{items:List D}{g:D->Option D}{upd:Sg->D->Sg}
theorem Ev.comp(c:cC C sc ro k σ elt target iter ifs cs items g upd):Ev C sc ro k σ (.ListComp elt [⟨target,iter,ifs,0⟩] cs pos) .fresh (.list (items.filterMap g)):=by
 intro A env h₀ own s Q r S q
 rw[eval_ListComp]
 refine tY g upd r S c.hit c.hsz c.hkind c.hcell c.hnames c.hfree c.kr c.ku c.pS c.helt c.hs λD Cl ah m az hD hC tE mT rp=>?_
 refine⟨m,mT,λh' nY=>q _ _ ?_ ?_⟩
 · exact⟨λb o _ e=>(nY.2 b λz=>by rw[z,hC] at e;cases e).trans (az.get e),az.os,az.gens⟩
 · exact rp.mono (λb hb=>hb.1) λb o hb e=>(nY.2 b hb.2).trans e
theorem wI{x:Str}{px:Pos}(f:Bool){xs:List D}{D Cl:Addr}{ah:Shared}{m:Str->Option Value}{Q:Flow->Shared->Prop}(S:St C sc ro env h₀ σ own s)(hx:Bound sc ro x)(hp:P (σ.set x f (.list xs)) .next)
 (q: ∀(fl:Flow) (gl:Fl) s' aq own',aO own.mu s s'->(∀b∈own.av,b∉own.mu->b∈own'.av)->(∀b∈own'.mu,b∈own.mu \/s.heap.get? b=none)->St C sc ro env h₀ aq own' s'->ye C.wc h₀ s'.heap gl fl->P aq gl->Q fl s')
 (az:cG s ah) (hD:s.heap.get? D=none) (hC:s.heap.get? Cl=none) (tE:D≠Cl) (mT:ah.heap.Ns Cl m) (rp:Rep C.wc ah.heap (λb=>s.heap.get? b=none/\ b≠Cl) (.ref D) (.list xs)):
 compPost (model C.prog C.w) A (λ_ _=>False) (some (PySem.assign (.Name x px) env)) (λ_ s'=>Q .next s') (.ref D) Cl (.ok .next) ah:=by
 have aC:(ah.heap.get? Cl).isSome=true:=by obtain⟨_,_,_,q,_⟩:=mT;rw[q];rfl
 have fin: ∀(l:List Addr) (bE:St C sc ro env h₀ σ ⟨Cl::(l++own.av),l++own.mu⟩ ah) (sl:Slot C.wc ah.heap ⟨Cl::(l++own.av),l++own.mu⟩ f (.ref D) (.list xs)) (hl: ∀z∈l,z=D) (hi:f=true-> ∀y dy,σ.get y=some (true,dy)-> ¬cg env ah.heap y (.ref D)),
  compPost (model C.prog C.w) A (λ_ _=>False) (some (PySem.assign (.Name x px) env)) (λ_ s'=>Q .next s') (.ref D) Cl (.ok .next) ah:=by
  intro l bE sl hl hi
  have hCm:Cl∉l++own.mu:=λh=>(bB.mp h).elim (λh=>tE (hl _ h).symm) λh=>by have:=S.alive _ (S.sub _ h);rw[hC] at this;cases this
  have dead: ∀z∈l++own.mu,z∈own.mu \/s.heap.get? z=none:=λz hz=>(bB.mp hz).elim (λh=>.inr (by rw[hl z h];exact hD)) .inl
  show wpAny _ A (PySem.assign (.Name x px) env (.ref D)) _ _ ah
  refine fL (bE.store sl hx.1 hx.2 (λhf y dy _ hy=>hi hf y dy hy) λaE a₂ _ bK=>?_)
  refine⟨m,cT mT λo e=>a₂.heap _ o hCm e,λh' nY=>?_⟩
  have hk: ∀b o,b≠Cl->aE.heap.get? b=some o->h'.get? b=some o:=λb o hb e=>(nY.2 b hb).trans e
  have dX:=bK.ER (s':={aE with heap:=h'}) hk (List.mem_cons_self) hCm
  refine q .next .next _ _ ⟨(Cl::(l++own.av)).filter (· ≠Cl),l++own.mu⟩ ?_ (λb hb hm=>?_) dead dX rfl hp
  · have b1:aO own.mu s aE:=aO.trans ⟨λb o _ e=>az.get e,az.os,az.gens⟩ a₂ dead
    exact⟨λb o hb e=>hk b o (λz=>by rw[z,hC] at e;cases e) (b1.heap b o hb e),b1.os,b1.gens⟩
  · have:b≠Cl:=λz=>by have:=S.alive b hb;rw[z,hC] at this;cases this
    exact fh.mpr ⟨.tail _ (b_ _ hb),decide_eq_true this⟩
 refine bk λG hG=>?_
 obtain⟨a,vs,e,⟨hb,pT⟩,hl,hsz,hr⟩:=rp
 refine hG ?_;clear hG G
 injection e with e;subst e
 have aD:(ah.heap.get? D).isSome=true:=by obtain⟨o,_,ho,_⟩:=hl;rw[ho];rfl
 cases f with
 |false=>
  refine fin [] (S.uL (l:=[Cl]) (m:=[]) az (λz hz=>by rw[ay.mp hz];exact hC) (λz hz=>by rw[ay.mp hz];exact aC) λ_ h=>nomatch h) ?_ (λ_ h=>nomatch h) λh=>nomatch h
  have key: ∀b,s.heap.get? b=none/\ b≠Cl->b∉Cl::([]++own.av):=λb hb hm=>by
   rcases aB.mp hm with h|h
   · exact hb.2 h
   · have:=S.alive b h;rw[hb.1] at this;cases this
  exact⟨D,vs,rfl,key D ⟨hD,tE⟩,hl,hsz,hr.mono (λb hb=>⟨key b hb.1,hb.2⟩) λ_ _ _ e=>e⟩
 |true=>
  refine fin [D] (S.uL (l:=[Cl,D]) (m:=[D]) az (λz hz=>?_) (λz hz=>?_) λz hz=>by rw[ay.mp hz];simp) ?_ (λz h=>ay.mp h) λ_ y dy hy va=>?_
  · rcases aB.mp hz with rfl|hz
    · exact hC
    · rw[ay.mp hz];exact hD
  · rcases aB.mp hz with rfl|hz
    · exact aC
    · rw[ay.mp hz];exact aD
  · refine⟨D,vs,_,rfl,by simp,by simp,rfl,hl,hsz,hr.mono (λb hb hm=>?_) λ_ _ _ e=>e⟩
    have zv:b=Cl \/b=D \/b∈own.av:=by simpa using hm
    rcases zv with h|h|h
    · exact hb.1.2 h
    · exact hb.2 h
    · have:=S.alive b h;rw[hb.1.1] at this;cases this
  · obtain⟨v,lV,sl⟩:=S.vars y _ _ hy
    have:=(lV.mono λb o e=>az.get e).det va
    subst this
    obtain⟨c,tC,ds',e1,_,e2,_⟩:=sl
    injection e1 with e1;subst e1
    have:=S.alive _ e2
    rw[hD] at this;cases this
theorem cH.rW{x:Str}{px oi:Pos}(f:Bool)(c:cC C sc ro k σ elt target iter ifs cs items g upd)(hx:Bound sc ro x)(hp:P (σ.set x f (.list (items.filterMap g))) .next)
 (hs: ∀env,env.scope=sc->swapsWith (.ListComp elt [⟨target,iter,ifs,0⟩] cs pos) (some (.Name x px)) oi.line env=pure true:=by intro env h;cases env;cases h;rfl):
 cH C sc ro k σ (.Assign [.Name x px] (.ListComp elt [⟨target,iter,ifs,0⟩] cs pos) oi) P:=by
 intro A env h₀ own s Q r S q
 rw[exec_Assign_Name_used _ _ _ _ (hs env S.scope)]
 refine ao (fM (ao ?_))
 rw[arm_evalThenUse_ListComp]
 refine ao (aT (tY (Q:=λ_ s'=>Q .next s') g upd r S c.hit c.hsz c.hkind c.hcell c.hnames c.hfree c.kr c.ku c.pS c.helt c.hs λD Cl ah m az hD hC tE mT rp=>?_) (λ_ s' hq=>aJ (aJ hq)) λ_ _ e=>e)
 exact wI f S hx hp q az hD hC tE mT rp
end
end
theorem Sg.set_set(x:Str)(f g:Bool)(d e:D): ∀σ:Sg,(σ.set x f d).set x g e=σ.set x g e
 |[]=>by unfold Sg.set;simp[Sg.set]
 |(y,h,a)::r=>by
  unfold Sg.set
  by_cases q:x=y
  · subst q
    simp[Sg.set]
  · simp[Sg.set,q,Sg.set_set x f g d e r]
theorem Sg.AQ(x y:Str)(d1 d2 e1 e2:D)(σ:Sg)(h:x≠y):((((σ.set x false d1).set y false d2).set x false e1).set y false e2)=((σ.set x false e1).set y false e2):=by
 have key: ∀σ:Sg,((σ.set x false d1).set y false d2).set x false e1=(σ.set x false e1).set y false d2:=by
  intro σ
  induction σ with
  |nil=>simp[Sg.set,Ne.symm h]
  |cons p r ih=>
   obtain⟨z,f,a⟩:=p
   by_cases q:x=z
   · subst q
     simp[Sg.set,Ne.symm h]
   · by_cases q':y=z
     · rw[<-q']
       simp[Sg.set,h]
       exact Sg.set_set x false false d1 e1 r
     · simp[Sg.set,q,q',ih]
 simp only[key,Sg.set_set]
noncomputable def nc(σ:Sg)(sc:Scope):List (Str×NameKind)->Prop
 |[]=>True
 |(y,.free)::r=>(∃f d,σ.get y=some (f,d)/\ (sc.names.lookup y=some .cell \/sc.names.lookup y=some .free))/\ nc σ sc r
 |_::r=>nc σ sc r
theorem nc.all{σ:Sg}{sc:Scope}: ∀{l:List (Str×NameKind)},nc σ sc l-> ∀y∈l,y.2= .free-> ∃f d,σ.get y.1=some (f,d)/\ (sc.names.lookup y.1=some .cell \/sc.names.lookup y.1=some .free):=λ{l}=>by
 induction l with
 |nil=>intro _ y hy;cases hy
 |cons p r ih=>
  intro h y hy hf
  obtain⟨n,kd⟩:=p
  rcases aB.mp hy with rfl|hy
  · subst hf
    exact h.1
  · refine ih ?_ y hy hf
    cases kd<;>first|exact h|exact h.2
noncomputable def cU(cs:Scope):Bool:=(cs.kind== .function)&&cs.names.all (λy=>(y.2 != .cell)&&(cs.names.lookup y.1==some y.2))
theorem cU.kind{cs:Scope}(h:cU cs=true):cs.kind= .function:=by
 unfold cU at h
 simp only[cY] at h
 have:=h.1
 cases hk:cs.kind<;>first|rfl|(rw[hk] at this;cases this)
theorem cU.cell{cs:Scope}(h:cU cs=true): ∀y∈cs.names,y.2≠.cell:=by
 unfold cU at h
 simp only[cY,dM] at h
 intro y hy e
 have:=(h.2 y hy).1
 rw[e] at this;cases this
theorem cU.names{cs:Scope}(h:cU cs=true): ∀y∈cs.names,cs.names.lookup y.1=some y.2:=by
 unfold cU at h
 simp only[cY,dM] at h
 intro y hy
 simpa using (h.2 y hy).2
theorem Ce{cs:Scope}(h:cU cs=true){x:Str}(hx:cs.names.lookup x=some .local):x∉fT cs:=λm=>by
 unfold fT at m
 obtain⟨⟨n,kd⟩,hm,rfl⟩:=aQ.mp m
 obtain⟨h1,h2⟩:=fh.mp hm
 have:=cU.names h _ h1
 rw[hx] at this
 injection this with this;subst this
 cases h2
theorem rX{cs sc:Scope}{x:Str}(hx:cs.names.lookup x=some .local):(fS cs sc).names.lookup x=some .local:=by
 show(cs.names.map _).lookup x=_
 have:=kD (sc:=sc) (names:=cs.names) (y:=x)
 rw[hx] at this
 exact this
section
variable{C:Cx}{sc:Scope}{ro:List Str}{k:Nat}{σ:Sg}{P:Sg->Fl->Prop}{A:Around}{env:Env}{h₀:Heap}{own:Ow}{s s' bD:Shared}
theorem cC.name{elt iter:Expr}{ifs:List Expr}{cs:Scope}{x:Str}{px:Pos}{items:List D}{g:D->Option D}(hit:aN C sc ro k σ iter items)(hd: ∀d∈items,d.sc=true)
 (hfree:nc σ sc cs.names) (helt: ∀d∈items,jn C (fS cs sc) (fT cs) k ((cj cs.names σ).set x false d) ifs elt (g d))
 (hsz:items.length<=sizeLine) (Cf:autoParam (cU cs=true) au) (hx:autoParam (cs.names.lookup x=some .local) au) (hs: ∀env x,foldedSetIterable iter env x=pure x:=by intro _ _;rfl):
 cC C sc ro k σ elt (.Name x px) iter ifs cs items g (λσ d=>σ.set x false d) where
 hit:=hit
 hsz:=hsz
 hkind:=cU.kind Cf
 hcell:=cU.cell Cf
 hnames:=cU.names Cf
 hfree:=hfree.all
 kr:=λA ji h₀ own s aq d v Q r S qt rp q=>fL (S.store (f:=false) (d:=d) (rp.dH (hd d qt)) (.inl (rX hx)) (Ce Cf hx) (λh=>nomatch h) λs' a _ S'=>q s' a S')
 ku:=λd qt=>iZ.name (hd d qt)
 pS:=λd _ d' _=>Sg.set_set x false false d d' _
 helt:=helt
 hs:=hs
theorem cC.pair{elt iter:Expr}{ifs:List Expr}{cs:Scope}{x y:Str}{px py tp:Pos}{kk:Nat}{items:List (D×D)}{g:D->Option D}(hit:aN C sc ro k σ iter (items.map λp=>.tup [p.1,p.2]))(hd: ∀p∈items,p.1.sc=true/\ p.2.sc=true)
 (hfree:nc σ sc cs.names) (helt: ∀p∈items,jn C (fS cs sc) (fT cs) k (((cj cs.names σ).set x false p.1).set y false p.2) ifs elt (g (.tup [p.1,p.2])))
 (hsz:items.length<=sizeLine) (hxy:x≠y) (Cf:autoParam (cU cs=true) au) (hx:autoParam (cs.names.lookup x=some .local) au) (hy:autoParam (cs.names.lookup y=some .local) au) (hs: ∀env x,foldedSetIterable iter env x=pure x:=by intro _ _;rfl):
 cC C sc ro k σ elt (.Tuple [.Name x px,.Name y py] kk tp) iter ifs cs (items.map λp=>.tup [p.1,p.2]) g (λσ d=>match d with| .tup [d₁,d₂]=>(σ.set x false d₁).set y false d₂|_=>σ.set x false .none) where
 hit:=hit
 hsz:=by simpa using hsz
 hkind:=cU.kind Cf
 hcell:=cU.cell Cf
 hnames:=cU.names Cf
 hfree:=hfree.all
 kr:=λA ji h₀ own s aq d v Q r S qt rp q=>by
  obtain⟨p,hp,rfl⟩:=aQ.mp qt
  exact qU r S rp (hd p hp).1 (hd p hp).2 ⟨.inl (rX hx),Ce Cf hx⟩ ⟨.inl (rX hy),Ce Cf hy⟩ q
 ku:=λd qt=>by
  obtain⟨p,hp,rfl⟩:=aQ.mp qt
  exact⟨_,_,_,rfl⟩
 pS:=λd qt d' XS=>by
  obtain⟨p,hp,rfl⟩:=aQ.mp qt
  obtain⟨p',EP,rfl⟩:=aQ.mp XS
  exact Sg.AQ x y p.1 p.2 p'.1 p'.2 _ hxy
 helt:=λd qt=>by
  obtain⟨p,hp,rfl⟩:=aQ.mp qt
  exact helt p hp
 hs:=hs
end
section
variable{C:Cx}{sc:Scope}{ro:List Str}{k:Nat}{a b:Int}
theorem iE.neg:iE C k .USub (.int a) (.int (-a)):=λA s va Q rm B ra q=>by
 obtain⟨t,rfl⟩:=ra
 exact PySem.P.neg_int (q _ _ (cG.tok _ _) ⟨_,rfl⟩)
theorem iE.inv:iE C k .Invert (.int a) (.int (Builtin.bitNot a)):=λA s va Q rm B ra q=>by
 obtain⟨t,rfl⟩:=ra
 exact unaryOp_gives (op:=.Invert) (m:=.int (Builtin.bitNot a)) (typeIs_int s a t) rfl slot_int_invert entry_int_invert (args_int_invert _) (.of_eq rfl) (q _ _ (cG.tok _ _) ⟨_,rfl⟩)
theorem aH.le:aH C k .LtE (.int a) (.int b) (decide (a<=b)):=λA s va vb Q rm B ra rb q=>by
 obtain⟨t,rfl⟩:=ra;obtain⟨u,rfl⟩:=rb
 exact PySem.P.le_int (q _ _ (aO.refl _ _) rfl)
theorem aH.ge:aH C k .GtE (.int a) (.int b) (decide (b<=a)):=λA s va vb Q rm B ra rb q=>by
 obtain⟨t,rfl⟩:=ra;obtain⟨u,rfl⟩:=rb
 exact PySem.P.ge_int (q _ _ (aO.refl _ _) rfl)
theorem wJ(x y:Bool):(Value.bool x==Value.bool y)=(x==y):=by
 cases x<;>cases y<;>rfl
theorem aH.isBool{x y:Bool}:aH C k .Is (.bool x) (.bool y) (x==y):=λA s va vb Q rm B ra rb q=>by
 cases ra;cases rb
 exact wpAny_is_plain rfl (by rw[wJ];exact q _ _ (aO.refl _ _) rfl)
theorem aH.dc{x y:Bool}:aH C k .IsNot (.bool x) (.bool y) (!(x==y)):=λA s va vb Q rm B ra rb q=>by
 cases ra;cases rb
 exact wpAny_isNot_plain rfl (by rw[wJ];exact q _ _ (aO.refl _ _) rfl)
theorem aH.yl:aH C k .Is .none .none true:=λA s va vb Q rm B ra rb q=>by
 cases ra;cases rb
 exact wpAny_is_self rfl (q _ _ (aO.refl _ _) rfl)
theorem aH.AR:aH C k .Is (.int a) .none false:=λA s va vb Q rm B ra rb q=>by
 obtain⟨t,rfl⟩:=ra;cases rb
 exact is_int_none (q _ _ (aO.refl _ _) rfl)
theorem aH.Cg{x y:Str}:aH C k .NotIn (.str y) (.str x) (!Txt.contains x y):=λA s va vb Q rm B ra rb q=>by
 obtain⟨⟨t,rfl⟩,_⟩:=ra;obtain⟨⟨u,rfl⟩,_⟩:=rb
 exact PySem.P.notIn_str (q _ _ (aO.refl _ _) rfl)
theorem ak.pow(hn:0<=b)(hsz:(Builtin.Int.intBits a:Int)*b<=2 ^27):ak C k .Pow (.int a) (.int b) (.int (a ^b.toNat)):=λA s va vb Q rm B ra rb q=>by
 obtain⟨t,rfl⟩:=ra;obtain⟨u,rfl⟩:=rb
 exact pow_int hn hsz (q _ _ (cG.tok _ _) ⟨_,rfl⟩)
theorem ak.shl(hn:0<=b)(hsz:(Builtin.Int.intBits a:Int)+b<=2 ^27):ak C k .LShift (.int a) (.int b) (.int (a*2 ^b.toNat)):=λA s va vb Q rm B ra rb q=>by
 obtain⟨t,rfl⟩:=ra;obtain⟨u,rfl⟩:=rb
 exact PyProof.Rows.lshift_int hn hsz (q _ _ (cG.tok _ _) ⟨_,rfl⟩)
theorem ak.shr(hn:0<=b):ak C k .RShift (.int a) (.int b) (.int (a.fdiv (2 ^b.toNat))):=λA s va vb Q rm B ra rb q=>by
 obtain⟨t,rfl⟩:=ra;obtain⟨u,rfl⟩:=rb
 exact PyProof.Rows.rshift_int hn (q _ _ (cG.tok _ _) ⟨_,rfl⟩)
theorem ak.xor:ak C k .BitXor (.int a) (.int b) (.int (Builtin.bitXor a b)):=λA s va vb Q rm B ra rb q=>by
 obtain⟨t,rfl⟩:=ra;obtain⟨u,rfl⟩:=rb
 exact PyProof.Rows.xor_int (q _ _ (cG.tok _ _) ⟨_,rfl⟩)
theorem oj{vs ws:List Value}{l m:List Int}(h:IntsAre vs l)(h':IntsAre ws m)(he:l.length=m.length):((List.range l.length).all λj=>(l.getD j 0==m.getD j 0))=(l==m):=by
 rw[Bool.eq_iff_iff]
 simp only[dM,bS,beq_iff_eq]
 constructor
 · intro h
   apply List.ext_getElem he
   intro i h1 h2
   have:=h i h1
   simpa [bM,h1,h2] using this
 · rintro rfl j _;rfl
theorem ints_get{vs:List Value}{l:List Int}(h:IntsAre vs l){j:Nat}(h1:j<vs.length): ∃t,vs[j]= .int (l.getD j 0) t:=by
 induction h generalizing j with
 |nil=>simp at h1
 |cons i t hr ih=>
  cases j with
  |zero=>exact⟨_,rfl⟩
  |succ j=>exact ih (j:=j) (by simpa using h1)
theorem jQ{vs:List Value}{l:List Int}(h:IntsAre vs l):vs.length=l.length:=by
 induction h with
 |nil=>rfl
 |cons i t hr ih=>simp[ih]
theorem aH.HY{l m:List Int}:aH C k .Eq (DL l) (DL m) (l==m):=λA s va vb Q rm B ra rb q=>by
 obtain⟨a,vs,rfl,_,hl,hs,hr⟩:=ra
 obtain⟨b,ws,rfl,_,pQ,nY,v_⟩:=rb
 have h1:=hr.toInts
 have h2:=v_.toInts
 have e1:=jQ h1
 have e2:=jQ h2
 rw[gV] at e1 e2
 have hu:A.units<cLine:=by have:=rm.units;exact OC this
 by_cases he:vs.size=ws.size
 · refine SeqAt.eq_listAt (e:=λj=>l.getD j 0==m.getD j 0) hl.isList pQ.isList he hu (λj h3 h4=>?_) (q _ _ (aO.refl _ _) ?_)
   · obtain⟨t,e⟩:=ints_get h1 (j:=j) (by simpa using h3)
     obtain⟨u,e'⟩:=ints_get h2 (j:=j) (by simpa using h4)
     rw[Array.getElem_toList] at e e'
     rw[e,e']
     exact SeqAt.EqAt.int_int _ _ _ _
   · rw[e1,oj h1 h2 (J8 e1 he e2)];rfl
 · refine SeqAt.eq_list_lengthsAt hl.isList pQ.isList (by simpa using he) hu (q _ _ (aO.refl _ _) ?_)
   have:(l==m)=false:=by
    simp only[beq_eq_false_iff_ne]
    rintro rfl;omega
   rw[this];rfl
theorem aH.rY{l m:List Int}:aH C k .NotEq (DL l) (DL m) (!(l==m)):=λA s va vb Q rm B ra rb q=>by
 obtain⟨a,vs,rfl,_,hl,hs,hr⟩:=ra
 obtain⟨b,ws,rfl,_,pQ,nY,v_⟩:=rb
 have h1:=hr.toInts
 have h2:=v_.toInts
 have e1:=jQ h1
 have e2:=jQ h2
 rw[gV] at e1 e2
 have hu:A.units<cLine:=by have:=rm.units;exact OC this
 by_cases he:vs.size=ws.size
 · refine(SeqAt.RcNeAt.lists (e:=λj=>l.getD j 0==m.getD j 0) hl.isList pQ.isList he hu (λj h3 h4=>?_)) C.prog C.w _ _ (q _ _ (aO.refl _ _) ?_)
   · obtain⟨t,e⟩:=ints_get h1 (j:=j) (by simpa using h3)
     obtain⟨u,e'⟩:=ints_get h2 (j:=j) (by simpa using h4)
     rw[Array.getElem_toList] at e e'
     rw[e,e']
     exact SeqAt.EqAt.int_int _ _ _ _
   · rw[e1,oj h1 h2 (J8 e1 he e2)];rfl
 · refine(SeqAt.RcNeAt.lists_lengths hl.isList pQ.isList (by simpa using he) hu) C.prog C.w _ _ (q _ _ (aO.refl _ _) ?_)
   have:(l==m)=false:=by
    simp only[beq_eq_false_iff_ne]
    rintro rfl;omega
   rw[this];rfl
end
noncomputable def pick{α:Type}(l:List α)(lo hi st:Option Int):List α:=
 (sliceRange (sliceBounds lo hi st l.length).1 (sliceBounds lo hi st l.length).2.1 (sliceBounds lo hi st l.length).2.2).filterMap (l[·]?)
theorem aU.picks{wc:Addr}{h:Heap}{Pr:Addr->Prop}{ds:List D}{vs:List Value}(x:aU wc h Pr vs ds): ∀r:List Nat,aU wc h Pr (r.filterMap (vs[·]?)) (r.filterMap (ds[·]?))
 |[]=>rfl
 |i::r=>by
  have hlen:=x.length
  have ih:=aU.picks x r
  cases hd:ds[i]? with
  |none=>
   have hv:vs[i]? =none:=by
    rw[List.getElem?_eq_none_iff] at hd ⊢
    exact J0 hlen hd
   simp only[gG,hd,hv]
   exact ih
  |some d=>
   obtain⟨v,hv,rv⟩:=x.get hd
   simp only[gG,hd,hv]
   exact⟨v,_,rfl,rv,ih⟩
section
variable{C:Cx}{sc:Scope}{ro:List Str}{k:Nat}{σ:Sg}{P:Sg->Fl->Prop}{A:Around}{env:Env}{h₀:Heap}{own:Ow}{s s' bD:Shared}
noncomputable def cI(C:Cx)(sc:Scope)(ro:List Str)(k:Nat)(σ:Sg):Option Expr->Option Int->Prop
 |none,none=>True
 |some e,some i=>Ev C sc ro k σ e .any (.int i)
 |_,_=>False
theorem cI.eval{e:Option Expr}{i:Option Int}{Q:Value->Shared->Prop}(h:cI C sc ro k σ e i)(r:bH A k)(S:St C sc ro env h₀ σ own s)(q: ∀p:Option (Int×Tok),p.map (·.1)=i-> ∀s',cG s s'->Q (partValue p) s'):
 wpAny (model C.prog C.w) A (evalPart e env) Q (λ_ _=>False) s:=by
 cases e with
 |none=>
  cases i with
  |none=>exact aJ (q none rfl s (aO.refl _ _))
  |some i=>exact h.elim
 |some e=>
  cases i with
  |none=>exact h.elim
  |some i=>
   refine h A env h₀ own s _ r S λv s' a rp=>?_
   obtain⟨t,rfl⟩:=rp
   exact q (some (i,t)) rfl s' a
theorem ym(p:Option (Int×Tok)):IsPart (partValue p) (p.map (·.1)):=by
 cases p with
 |none=>exact .none
 |some p=>exact .int p.1 p.2
theorem wK{value:Expr}{lo hi st:Option Expr}{p pos:Pos}{il ih is:Option Int}{a:D}{md:Md}{T id:String}{Q:Value->Shared->Prop}(hv:Ev C sc ro k σ value md a)(h1:cI C sc ro k σ lo il)(h2:cI C sc ro k σ hi ih)(h3:cI C sc ro k σ st is)(r:bH A k)(S:St C sc ro env h₀ σ own s)
 (hT: ∀h P v,Rep C.wc h P v a-> ∀s:Shared,s.heap=h->s.TypeIs v T) (hl:typeLookup (.type T) "__getitem__" =pure (some (.builtin id)))
 (q: ∀v (pl pu ps:Option (Int×Tok)) s',pl.map (·.1)=il->pu.map (·.1)=ih->ps.map (·.1)=is->cG s s'->Rep C.wc s'.heap (md.ok own s.heap) v a->
   wpAny (model C.prog C.w) A (getItem v (.ref s'.heap.objs.size)) Q (λ_ _=>False) {s' with heap:=s'.heap.push {cls:=.type "slice",data:=.fields #[partValue pl,partValue pu,partValue ps]}})
 (ht: ∀o r,letTemporaryGo value o r=pure ():=by intro _ _;rfl):wpAny (model C.prog C.w) A (eval (.Subscript value (.Slice lo hi st p) pos) env) Q (λ_ _=>False) s:=by
 have key:wpAny (model C.prog C.w) A (eval value env) (λo ah=>wpAny (model C.prog C.w) A (eval (.Slice lo hi st p) env) (λi aE=>aE.TypeIs o T/\ wpAny (model C.prog C.w) A (getItem o i) Q (λ_ _=>False) aE) (λ_ _=>False) ah) (λ_ _=>False) s:=by
  refine hv A env h₀ own s _ r S λv ah az rp=>wpAny_Slice ?_
  refine h1.eval r (S.cX az) λpl e1 aE a₂=>?_
  refine h2.eval r ((S.cX az).cX a₂) λpu e2 aV cL=>?_
  refine h3.eval r (((S.cX az).cX a₂).cX cL) λps e3 cP fm=>?_
  have om:=(a₂.trans cL).trans fm
  have vX:Rep C.wc cP.heap (md.ok own s.heap) v a:=rp.ext λb o e=>om.get e
  refine⟨hT _ _ _ (vX.ext (h':=cP.heap.push {cls:=.type "slice",data:=.fields #[partValue pl,partValue pu,partValue ps]}) λb o e=>dh _ e) _ rfl,q v pl pu ps cP e1 e2 e3 (az.trans om) vX⟩
 cases st with
 |none=>exact wpAny_Subscript_Slice hl key ht
 |some st=>exact wpAny_Subscript_Slice_step hl key ht
theorem E3{ds:List D}(h: ∀d∈ds,d.sc=true)(lo hi st:Option Int): ∀d∈pick ds lo hi st,d.sc=true:=λd hd=>by
 unfold pick at hd
 obtain⟨i,_,e⟩:=rF.mp hd
 exact h d (pJ e)
theorem Ev.jR{value:Expr}{lo hi st:Option Expr}{p pos:Pos}{il ih is:Option Int}{ds:List D}(hv:Ev C sc ro k σ value .any (.list ds))(pA: ∀d∈ds,d.sc=true)(h1:cI C sc ro k σ lo il)(h2:cI C sc ro k σ hi ih)(h3:cI C sc ro k σ st is)(h0:is≠some 0)
 (ht: ∀o r,letTemporaryGo value o r=pure ():=by intro _ _;rfl):Ev C sc ro k σ (.Subscript value (.Slice lo hi st p) pos) .fresh (.list (pick ds il ih is)):=by
 intro A env h₀ own s Q r S q
 refine wK (T:="list") hv h1 h2 h3 r S (λh P v rp s e=>?_) list_getitem_lookup (λv pl pu ps s' e1 e2 e3 a rp=>?_) ht
 · obtain⟨a,vs,rfl,_,hl,_⟩:=rp
   subst e
   exact hl.isList.typeIs
 · obtain⟨l,vs,rfl,_,hl,hsz,hr⟩:=rp
   have hlen:=hr.length
   rw[gV] at hlen
   subst e1;subst e2;subst e3
   refine wpAny_getItem_list_slice (hl.isList.push _) (Heap.IsSliceOf.new ..) (ym pl) (ym pu) (ym ps) h0 ?_ hsz
   refine q _ _ (a.trans ((cG.push s' _ s'.toks).trans (cG.push _ _ _))) ⟨_,slicePick vs _ _ _,rfl,?_,⟨_,_,cV _ rfl,rfl,rfl,rfl⟩,aX (slicePick_size_le ..) hsz,?_⟩
   · refine a.none ?_
     rw[Heap.size_push]
     cases e:s'.heap.get? (s'.heap.objs.size+1) with
     |none=>rfl
     |some o=>exact absurd (fY e) (Nat.not_lt.mpr (Nat.le_succ _))
   · unfold slicePick pick
     rw[<-hlen]
     refine aU.dH (h:=s'.heap) (P:=λ_=>True) ?_ (by rw[hlen];exact E3 pA _ _ _)
     have:=(hr.mono (Q:=λ_=>True) (h':=s'.heap) (λ_ _=>trivial) λ_ _ _ e=>e).picks (sliceRange (sliceBounds (pl.map (·.1)) (pu.map (·.1)) (ps.map (·.1)) vs.size).1 (sliceBounds (pl.map (·.1)) (pu.map (·.1)) (ps.map (·.1)) vs.size).2.1 (sliceBounds (pl.map (·.1)) (pu.map (·.1)) (ps.map (·.1)) vs.size).2.2)
     simpa using this
theorem Ev.lC{value:Expr}{lo hi:Option Expr}{p pos:Pos}{il ih:Option Int}{x:Str}(hv:Ev C sc ro k σ value .any (.str x))(h1:cI C sc ro k σ lo il)(h2:cI C sc ro k σ hi ih)
 (ht: ∀o r,letTemporaryGo value o r=pure ():=by intro _ _;rfl):Ev C sc ro k σ (.Subscript value (.Slice lo hi none p) pos) .fresh (.str (Txt.slice x il ih)):=by
 intro A env h₀ own s Q r S q
 refine wK (T:="str") (st:=none) (is:=none) hv h1 h2 trivial r S (λh P v rp s e=>?_) F.slot_str_getitem.lookup (λv pl pu ps s' e1 e2 e3 a rp=>?_) ht
 · obtain⟨⟨t,rfl⟩,_⟩:=rp
   exact typeIs_str _ _ _
 · obtain⟨⟨t,rfl⟩,hx⟩:=rp
   subst e1;subst e2
   cases ps with
   |some p=>cases e3
   |none=>
    refine wpAny_getItem_str_slice (l:=pl) (u:=pu) (st:=none) ⟨_,cV _ rfl,rfl,rfl⟩ rfl ?_
    refine post_val_or_str ⟨aX (Txt.slice_le x _ _) hx,λt' k=>q _ _ (a.trans (cG.push s' _ _)) ⟨⟨t',rfl⟩,aX (Txt.slice_le x _ _) hx⟩⟩
end
end Mine
end
section
open PySem PySem.W PyProof.Rows
open Builtin Builtin.Str
namespace Mine
section
variable{C:Cx}{sc:Scope}{ro:List Str}{k:Nat}{σ:Sg}{P:Sg->Fl->Prop}{A:Around}{env:Env}{h₀:Heap}{own:Ow}{s s' bD:Shared}
theorem aU.rep{wc:Addr}{h:Heap}{Pr:Addr->Prop}{ds:List D}{vs:List Value}(x:aU wc h Pr vs ds): ∀n:Nat,aU wc h Pr (List.replicate n vs).flatten (List.replicate n ds).flatten
 |0=>rfl
 |n+1=>by
  simp only[jz,jz,mQ,mQ]
  exact x.append (aU.rep x n)
theorem ak.zC{ds:List D}{n:Int}(pA: ∀d∈ds,d.sc=true)(XT: -(2 ^63:Int)<=n)(hhi:n<2 ^63)(hsz:ds.length*n.toNat<=sizeLine):ak C k .Mult (.list ds) (.int n) (.list (List.replicate n.toNat ds).flatten):=by
 rintro A s va vb Q rm B ⟨l,vs,rfl,_,⟨⟨cls,dd,data,sl⟩,kk,ho,jJ,AM,hd⟩,hs,hr⟩ ⟨u,rfl⟩ q
 simp only at jJ AM hd
 subst jJ AM hd
 have hlen:=hr.length
 rw[gV] at hlen
 have aF:sizeLine=16777216:=rfl
 have tF:vs.size*n.toNat<=16777216:=by rw[hlen];exact Tu aF hsz
 refine wpAny_binaryOp_repeat_ref (T:="list") (U:="int") (by decide) ⟨_,ho,rfl⟩ (λs'=>typeIs_int s' n u) noFill_list_mul PySem.F.fills_int_mul PySem.F.slot_int_rmul repeat_list PySem.F.slot_int_index.lookup
  (call_meets PySem.F.slot_int_rmul (typeIs_int s n u) PySem.F.entry_int_rmul (PySem.F.args_int_rmul_2 _ _) (lm_int_rmul_list_any n u l vs kk none sl)
    ⟨ho,rfl,⟨_,ho,rfl⟩,call_meets PySem.F.slot_list_mul ⟨_,ho,rfl⟩ PySem.F.entry_list_mul (PySem.F.args_list_mul_2 _ _)
      (lm_list_mul_any l vs kk none sl n u (by simp[Builtin.List.listFitsIndex];exact Xf XT hhi) (TY tF) (by simp[Builtin.List.listTooLong,sizeLine];exact Rt tF))
      ⟨ho,?_⟩⟩)
 refine q _ _ (cG.push s _ s.toks) ⟨_,(List.replicate n.toNat vs.toList).flatten.toArray,rfl,bg _,⟨_,_,cV _ rfl,rfl,rfl,by rw[listMul_foldl_if]⟩,?_,?_⟩
 · simp only[List.size_toArray,lm_len_rep_flat,gV,Nat.mul_comm]
   exact Tv aF tF
 · have:=(hr.mono (Q:=λ_=>True) (h':=s.heap) (λ_ _=>trivial) λ_ _ _ e=>e).rep n.toNat
   exact aU.dH this (λd hd=>by
    obtain⟨l,hl,hd⟩:=List.mem_flatten.mp hd
    rw[(List.mem_replicate.mp hl).2] at hd
    exact pA d hd)
theorem Ev.HZ{o:Expr}{name:Str}{apos pos:Pos}{args:List Expr}{a:D}{ds:List D}{d:D}{md:Md}(T id:String)(pa:PlainAttrs T)(slot:PySem.Slot T name id)(EU:typeOf (.builtin id)=pure (.type "method_descriptor"))
 (hT: ∀(s:Shared) v,Rep C.wc s.heap (λ_=>True) v a->s.TypeIs v T/\ ∀x,v= .ref x-> ∃o,s.heap.get? x=some o/\ o.dict=none)
 (h1:Ev C sc ro k σ o .any a) (ha:Ar C sc ro k σ args md ds) (hc:Fn C k (.builtin id) (a::ds) d)
 (cJ:autoParam (∀env,attributeBase o name env (eval o env)=eval o env) au)
 (rP:autoParam (∀env,((backTo pos (starEach args env)).all (λx=>!x.1)&&(backToKw pos (keywordEach [] env)).all (λx=>x.1.isSome)
   &&decide (args.length+([]:List Keyword).length+(if([]:List Keyword).isEmpty then 0 else 1)<30))=true) au)
 (aF:autoParam ((apos.endLine==pos.line)=true) au):Ev C sc ro k σ (.Call (.Attribute o name apos) args [] pos) .fresh d:=by
 intro A env h₀ own s Q r S q
 refine wpAny_Call_method_lateS (cJ env) (rP env) aF (h1 A env h₀ own s _ r S λv ah az rp=>?_)
 have bE:=S.cX az
 obtain⟨t1,t2⟩:=hT ah v rp
 refine⟨T,id,pa,slot,EU,t1,t2,Calls.callWith_builtin (ha.2 env pos) (di (ha.2 env pos) ?_)⟩
 refine ha.1 A env h₀ own ah pos _ r bE λvs aE a₂ gK=>?_
 refine hc A aE (v::vs) Q r (bE.cX a₂).B ⟨v,vs,rfl,Rep.ext rp λb o e=>a₂.get e,gK.mono (λ_ _=>trivial) λ_ _ _ e=>e⟩ λr aV cL rr=>?_
 exact q r aV ((az.trans a₂).trans cL) (rr.mono (λb hb=>(az.trans a₂).none hb) λ_ _ _ e=>e)
theorem Lo{x:Str}(s:Shared)(v:Value)(h:Rep C.wc s.heap (λ_=>True) v (.str x)):s.TypeIs v "str" /\ ∀a,v= .ref a-> ∃o,s.heap.get? a=some o/\ o.dict=none:=by
 obtain⟨⟨t,rfl⟩,_⟩:=h
 exact⟨typeIs_str _ _ _,λa e=>nomatch e⟩
theorem XU{x:Int}(s:Shared)(v:Value)(h:Rep C.wc s.heap (λ_=>True) v (.int x)):s.TypeIs v "int" /\ ∀a,v= .ref a-> ∃o,s.heap.get? a=some o/\ o.dict=none:=by
 obtain⟨t,rfl⟩:=h
 exact⟨typeIs_int _ _ _,λa e=>nomatch e⟩
theorem Fn.bits{x:Int}:Fn C k (.builtin "int.bit_length") [.int x] (.int (Builtin.Int.intBits x)):=by
 rintro A s _ Q r B ⟨v,_,rfl,⟨t,rfl⟩,rfl⟩ q
 exact call_int_bit_length (q _ _ (cG.tok s _) ⟨_,rfl⟩)
theorem Ev.bits{o:Expr}{apos pos:Pos}{x:Int}(h:Ev C sc ro k σ o .any (.int x))(cJ:autoParam (∀env,attributeBase o "bit_length" env (eval o env)=eval o env) au)(aF:autoParam ((apos.endLine==pos.line)=true) au):
 Ev C sc ro k σ (.Call (.Attribute o "bit_length" apos) [] [] pos) .fresh (.int (Builtin.Int.intBits x)):=
 Ev.HZ "int" "int.bit_length" PySem.F.plainAttrs_int PySem.F.slot_int_bit_length PySem.F.type_int_bit_length XU h (Ar.nil (md:=.any)) Fn.bits cJ (λ_=>rfl) aF
theorem aU.strs{wc:Addr}{h:Heap}{Pr:Addr->Prop}: ∀{l:List (Str×Tok)},(∀p∈l,p.1.length<=sizeLine)->aU wc h Pr (strValues l) ((l.map (·.1)).map D.str):=by
 intro l0
 induction l0 with
 |nil=>
  intro _
  exact rfl
 |cons p l ih=>
  intro hl
  exact⟨_,_,rfl,⟨⟨_,rfl⟩,hl p (.head _)⟩,ih λq hq=>hl q (.tail _ hq)⟩
theorem aU.toStrs{wc:Addr}{h:Heap}{Pr:Addr->Prop}: ∀{xs:List Str} {vs:List Value},aU wc h Pr vs (xs.map D.str)-> ∃l:List (Str×Tok),l.map (·.1)=xs/\ vs=strValues l:=by
 intro l0
 induction l0 with
 |nil=>
  intro vs x
  subst x;exact⟨[],rfl,rfl⟩
 |cons y xs ih=>
  intro vs x
  obtain⟨v,r,rfl,⟨⟨t,rfl⟩,_⟩,b⟩:=x
  obtain⟨l,rfl,rfl⟩:=ih b
  exact⟨(y,t)::l,rfl,rfl⟩
theorem Fn.join{x:Str}{xs:List Str}(Ci:JoinOk x xs=true)(hl:(Txt.join x xs).length<=sizeLine):Fn C k (.builtin "str.join") [.str x,.list (xs.map D.str)] (.str (Txt.join x xs)):=by
 rintro A s _ Q r B ⟨v,_,rfl,⟨⟨t,rfl⟩,_⟩,⟨v',_,rfl,⟨a,vs,rfl,_,hp,hs,hr⟩,rfl⟩⟩ q
 obtain⟨l,rfl,e⟩:=hr.toStrs
 have:vs=(strValues l).toArray:=by rw[<-e]
 subst this
 exact SC.join hp.isList rfl Ci λt' kk=>q _ _ (cG.tok s _) ⟨⟨_,rfl⟩,hl⟩
theorem Ev.join{o e:Expr}{apos pos:Pos}{x:Str}{xs:List Str}(h:Ev C sc ro k σ o .any (.str x))(he:Ev C sc ro k σ e .any (.list (xs.map D.str)))(Ci:JoinOk x xs=true)(hl:(Txt.join x xs).length<=sizeLine)
 (cJ:autoParam (∀env,attributeBase o "join" env (eval o env)=eval o env) au) (Cj:autoParam (∀env,starEach [e] env=(false,eval e env)::starEach [] env) au) (aF:autoParam ((apos.endLine==pos.line)=true) au):
 Ev C sc ro k σ (.Call (.Attribute o "join" apos) [e] [] pos) .fresh (.str (Txt.join x xs)):=
 Ev.HZ "str" "str.join" PySem.F.plainAttrs_str PySem.F.slot_str_join PySem.F.type_str_join Lo h (Ar.cons he Ar.nil Cj) (Fn.join Ci hl) cJ (λenv=>by rw[Cj];rfl) aF
theorem Fn.split{x y:Str}(hy:(y.length==0)=false)(hn:(partsBetween x (occurrences x y 0 x.length (x.length+1)) y.length).length<=sizeLine):Fn C k (.builtin "str.split") [.str x,.str y] (.list ((Txt.split x y).map D.str)):=by
 rintro A s _ Q r B ⟨v,_,rfl,⟨⟨t,rfl⟩,hx⟩,⟨v',_,rfl,⟨⟨u,rfl⟩,_⟩,rfl⟩⟩ q
 have fin: ∀(l:List (Str×Tok)) (tk:Nat),l.map (·.1)=Txt.split x y->(∀p∈l,p.1.length<=sizeLine)->l.length<=sizeLine->Q (.ref s.heap.objs.size) {s with heap:=s.heap.push {cls:=.type "list",data:=.seq (strValues l).toArray},toks:=tk}:=by
  intro l tk e hl hsz
  refine q _ _ (cG.push s _ tk) ⟨_,(strValues l).toArray,rfl,bg _,⟨_,_,cV _ rfl,rfl,rfl,rfl⟩,?_,?_⟩
  · rw[List.size_toArray];unfold strValues;rw[aM];exact hsz
  · rw[<-e];exact aU.strs hl
 have one: ∀p∈[(x,t)],p.1.length<=sizeLine:=λp hp=>by rw[ay.mp hp];exact hx
 cases h1:(decide (x.length<y.length)||decide (strKind x<strKind y))
 · cases hf:(occurrences x y 0 x.length (x.length+1)).isEmpty
   · refine call_meets PySem.F.slot_str_split (typeIs_str _ _ _) PySem.F.entry_str_split (PySem.F.args_str_split_2 _ _) (meets_str_split_sep x y t u h1 hy hf hx hn) ?_
     show wants Q _ _ {s with toks:=_,heap:=s.heap.push {cls:=.type "list",data:=.seq (strsFrom s.toks (partsBetween x (occurrences x y 0 x.length (x.length+1)) y.length)).toArray}}
     rw[strsFrom_eq]
     have e1:=numbered_texts s.toks (partsBetween x (occurrences x y 0 x.length (x.length+1)) y.length)
     refine fin (numbered s.toks _) _ (e1.trans ((aa (ne_true_of_eq_false h1)).trans (aa (ne_true_of_eq_false hf))).symm) (λp hp=>?_) ?_
     · have:p.1∈partsBetween x (occurrences x y 0 x.length (x.length+1)) y.length:=by rw[<-e1];exact aQ.mpr ⟨p,hp,rfl⟩
       rw[partsBetween,aQ] at this
       obtain⟨⟨i,j⟩,_,e⟩:=this
       rw[<-e]
       exact aX (strSub_length_le ..) hx
     · rw[<-aM (f:=(·.1)),e1];exact hn
   · exact call_meets PySem.F.slot_str_split (typeIs_str _ _ _) PySem.F.entry_str_split (PySem.F.args_str_split_2 _ _) (meets_str_split_not_found x y t u h1 hy hf)
      (fin [(x,t)] s.toks ((aa (ne_true_of_eq_false h1)).trans (af hf)).symm one (by show 1<=sizeLine;decide))
 · exact call_meets PySem.F.slot_str_split (typeIs_str _ _ _) PySem.F.entry_str_split (PySem.F.args_str_split_2 _ _) (meets_str_split_cannot_occur x y t u h1)
    (fin [(x,t)] s.toks (af h1).symm one (by show 1<=sizeLine;decide))
theorem Ev.split{o e:Expr}{apos pos:Pos}{x y:Str}(h:Ev C sc ro k σ o .any (.str x))(he:Ev C sc ro k σ e .any (.str y))(hy:(y.length==0)=false)(hn:(partsBetween x (occurrences x y 0 x.length (x.length+1)) y.length).length<=sizeLine)
 (cJ:autoParam (∀env,attributeBase o "split" env (eval o env)=eval o env) au) (Cj:autoParam (∀env,starEach [e] env=(false,eval e env)::starEach [] env) au) (aF:autoParam ((apos.endLine==pos.line)=true) au):
 Ev C sc ro k σ (.Call (.Attribute o "split" apos) [e] [] pos) .fresh (.list ((Txt.split x y).map D.str)):=
 Ev.HZ "str" "str.split" PySem.F.plainAttrs_str PySem.F.slot_str_split PySem.F.type_str_split Lo h (Ar.cons he Ar.nil Cj) (Fn.split hy hn) cJ (λenv=>by rw[Cj];rfl) aF
theorem Te.int{e:Expr}{x:Int}(h:Ev C sc ro k σ e .any (.int x))(he: ∀env w,isTrue e env w=(do let v<-w;standAt e.pos;holding [v] (truthy v)):=by intros;rfl):Te C sc ro k σ e (x !=0):=by
 intro A env h₀ own s Q rm S q
 rw[he]
 refine ao (h A env h₀ own s _ rm S λv ah az rp=>?_)
 obtain⟨t,rfl⟩:=rp
 exact ao (fM (dZ (PySem.P.truthy_int (q ah az))))
theorem Te.list{e:Expr}{ds:List D}(h:Ev C sc ro k σ e .any (.list ds))(he: ∀env w,isTrue e env w=(do let v<-w;standAt e.pos;holding [v] (truthy v)):=by intros;rfl):Te C sc ro k σ e (!ds.isEmpty):=by
 intro A env h₀ own s Q rm S q
 rw[he]
 refine ao (h A env h₀ own s _ rm S λv ah az rp=>?_)
 obtain⟨a,vs,rfl,_,hl,hs,hr⟩:=rp
 have hlen:=hr.length
 rw[gV] at hlen
 have aF:sizeLine=16777216:=rfl
 have e1:vs.isEmpty=ds.isEmpty:=by
  rw[Bool.eq_iff_iff,Array.isEmpty_iff_size_eq_zero,List.isEmpty_iff_length_eq_zero,hlen]
 exact ao (fM (dZ (wpAny_truthy_list hl.isList (OO aF hs) (by rw[e1];exact q _ (az.trans (cG.tok ah _))))))
end
end Mine
end
section
open PySem PySem.W PyProof.Rows
namespace Mine
section
variable{C:Cx}{sc:Scope}{ro:List Str}{k:Nat}{σ:Sg}{P:Sg->Fl->Prop}{A:Around}{env:Env}{h₀:Heap}{own:Ow}{s s' bD:Shared}
theorem yq: ∀{vs:List Value} {l:List Int},IntsAre vs l-> ∃xs:List (Int×Tok),vs=xs.map (λp=>.int p.1 p.2)/\ xs.map (·.1)=l:=λh=>by
 induction h with
 |nil=>exact⟨[],rfl,rfl⟩
 |cons i t r ih=>
  obtain⟨xs,rfl,rfl⟩:=ih
  exact⟨(i,t)::xs,rfl,rfl⟩
theorem pU{wc:Addr}{h:Heap}{v:Value}{l:List Int}{Pr:Addr->Prop}(x:Rep wc h Pr v (DL l)): ∃(a:Addr) (xs:Array (Int×Tok)),v= .ref a/\ h.IsList a (intItems xs)/\ xs.toList.map (·.1)=l/\ xs.size<=sizeLine:=by
 refine bk λG hG=>?_
 obtain⟨a,vs,rfl,_,hl,hs,hr⟩:=x
 obtain⟨xs,e,rfl⟩:=yq hr.toInts
 refine hG ?_;clear hG G
 have:vs=intItems xs.toArray:=by
  apply Array.ext'
  rw[e];simp[intItems]
 subst this
 exact⟨a,xs.toArray,rfl,hl.isList,rfl,by simpa [intItems] using hs⟩
theorem jS{xs:Array (Int×Tok)}{i:Nat}:numAt xs i=(xs.toList.map (·.1)).getD i 0:=by
 unfold numAt
 simp only[bM,cM,Array.getElem?_toList]
theorem preSum_eq(l:List Int): ∀n,n<=l.length->preSum (λi=>l.getD i 0) n=(l.take n).sum
 |0,_=>by simp[preSum]
 |n+1,h=>by
  rw[preSum,preSum_eq l n (by exact Q4 h),List.take_succ_eq_append_getElem (by omega),List.sum_append]
  simp[bM,cE (show n<l.length by omega)]
theorem Fn.sum{l:List Int}:Fn C k (.builtin "sum") [DL l] (.int l.sum):=by
 rintro A s _ Q r B ⟨v,_,rfl,rp,rfl⟩ q
 obtain⟨a,xs,rfl,hl,hx,hs⟩:=pU rp
 refine call_sum_walkAnyS (iter_intList hl λaE e st hfp hlI=>?_)
 subst e
 refine⟨_,_,_,_,_,_,_,numAt xs,rfl,(Walks.list (A:=A.in1) r.1 _ a hlI (intItems xs)).toS,st,hfp,(λ_ _=>intItems_at),λs' t' hm=>?_⟩
 have hn:(intItems xs).size=l.length:=by rw[<-hx];simp[intItems]
 have hv:preSum (numAt xs) (intItems xs).size=l.sum:=by
  have e:numAt xs=λi=>l.getD i 0:=by funext i;rw[jS,hx]
  rw[e,preSum_eq l _ (by exact Q64 hn),hn,List.take_length]
 rw[hv]
 refine q _ _ ⟨λb o _ e=>hm.heap b o (λh=>?_) (dh _ e),hm.os,by rw[hm.gens];exact bF.rfl'⟩ ⟨_,rfl⟩
 have:=fY e
 rw[ay.mp h] at this
 exact Nat.lt_irrefl _ this
theorem Fn.max2{a b:Int}:Fn C k (.builtin "max") [.int a,.int b] (.int (max a b)):=by
 rintro A s _ Q r B ⟨v,_,rfl,⟨t,rfl⟩,⟨v',_,rfl,⟨u,rfl⟩,rfl⟩⟩ q
 refine max_two_ints r.1 λh' tk hk=>q _ _ ⟨λb o _ e=>hk b o e,rfl,bF.rfl'⟩ ?_
 by_cases h:b>a
 · rw[af h];exact⟨u,by rw[show max a b=b by exact Ru h]⟩
 · rw[aa h];exact⟨t,by rw[show max a b=a by exact R_ h]⟩
theorem qu(f:Nat->Int): ∀n,argBest (λi j=>decide (f i>f j)) n<=n/\ ∀i,i<=n->f i<=f (argBest (λi j=>decide (f i>f j)) n)
 |0=>⟨aR _,λi h=>by rw[Nat.le_zero.mp h];exact cO _⟩
 |n+1=>by
  obtain⟨h1,h2⟩:=qu f n
  unfold argBest
  by_cases h:f (n+1)>f (argBest (λi j=>decide (f i>f j)) n)
  · simp only[h,decide_true,if_true]
    refine⟨aR _,λi hi=>?_⟩
    rcases pK hi with hi|rfl
    · have:=h2 i (NJ hi);exact QO h this
    · exact cO _
  · simp only[h,decide_false,wo,if_false]
    refine⟨Q6 h1,λi hi=>?_⟩
    rcases pK hi with hi|rfl
    · exact h2 i (NJ hi)
    · exact PY h
theorem qv(f:Nat->Int): ∀n,argBest (λi j=>decide (f i<f j)) n<=n/\ ∀i,i<=n->f (argBest (λi j=>decide (f i<f j)) n)<=f i
 |0=>⟨aR _,λi h=>by rw[Nat.le_zero.mp h];exact cO _⟩
 |n+1=>by
  obtain⟨h1,h2⟩:=qv f n
  unfold argBest
  by_cases h:f (n+1)<f (argBest (λi j=>decide (f i<f j)) n)
  · simp only[h,decide_true,if_true]
    refine⟨aR _,λi hi=>?_⟩
    rcases pK hi with hi|rfl
    · have:=h2 i (NJ hi);exact QS h this
    · exact cO _
  · simp only[h,decide_false,wo,if_false]
    refine⟨Q6 h1,λi hi=>?_⟩
    rcases pK hi with hi|rfl
    · exact h2 i (by exact NJ hi)
    · exact PZ h
theorem Fn.zD{l:List Int}{m:Int}(hm:m∈l)(hle: ∀x∈l,x<=m):Fn C k (.builtin "max") [DL l] (.int m):=by
 rintro A s _ Q r B ⟨v,_,rfl,rp,rfl⟩ q
 obtain⟨a,xs,rfl,hl,hx,hs⟩:=pU rp
 have hlen:xs.size=l.length:=by rw[<-hx];simp
 have oq:0<xs.size:=by rw[hlen];exact List.length_pos_of_mem hm
 refine max_intList r.1 hl oq λv h' tk hv hk=>?_
 obtain⟨t,rfl⟩:=intItems_at hv
 refine q _ _ ⟨λb o _ e=>hk b o e,rfl,bF.rfl'⟩ ⟨t,?_⟩
 obtain⟨h1,h2⟩:=qu (numAt xs) (xs.size-1)
 generalize argBest (λi j=>decide (numAt xs i>numAt xs j)) (xs.size-1)=j at h1 h2
 have hj:j<l.length:=Ka oq hlen h1
 have e1:numAt xs j=l[j]:=by rw[jS,hx];simp[bM,hj]
 obtain⟨i,hi,rfl⟩:=List.getElem_of_mem hm
 have e2:numAt xs i=l[i]:=by rw[jS,hx];simp[bM,hi]
 have:=h2 i (by exact Q94 hi hlen)
 have:=hle l[j] (jy hj)
 rw[show numAt xs j=l[i] by lia]
theorem Fn.zE{l:List Int}{m:Int}(hm:m∈l)(hle: ∀x∈l,m<=x):Fn C k (.builtin "min") [DL l] (.int m):=by
 rintro A s _ Q r B ⟨v,_,rfl,rp,rfl⟩ q
 obtain⟨a,xs,rfl,hl,hx,hs⟩:=pU rp
 have hlen:xs.size=l.length:=by rw[<-hx];simp
 have oq:0<xs.size:=by rw[hlen];exact List.length_pos_of_mem hm
 refine min_intList r.1 hl oq λv h' tk hv hk=>?_
 obtain⟨t,rfl⟩:=intItems_at hv
 refine q _ _ ⟨λb o _ e=>hk b o e,rfl,bF.rfl'⟩ ⟨t,?_⟩
 obtain⟨h1,h2⟩:=qv (numAt xs) (xs.size-1)
 generalize argBest (λi j=>decide (numAt xs i<numAt xs j)) (xs.size-1)=j at h1 h2
 have hj:j<l.length:=Ka oq hlen h1
 have e1:numAt xs j=l[j]:=by rw[jS,hx];simp[bM,hj]
 obtain⟨i,hi,rfl⟩:=List.getElem_of_mem hm
 have e2:numAt xs i=l[i]:=by rw[jS,hx];simp[bM,hi]
 have:=h2 i (Q94 hi hlen)
 have:=hle l[j] (jy hj)
 rw[show numAt xs j=l[i] by exact UT e1 e2 (by assumption) this]
theorem Fn.tuple{ds:List D}(pA: ∀d∈ds,d.sc=true):Fn C k (.type "tuple") [.list ds] (.tup ds):=by
 rintro A s _ Q r B ⟨v,_,rfl,⟨a,vs,rfl,_,hl,hs,hr⟩,rfl⟩ q
 refine call_tuple_list hl.isList (λh' hk=>?_) hs
 have hn:s.heap.get? h'.objs.size=none:=by
  cases e:s.heap.get? h'.objs.size with
  |none=>rfl
  |some o=>exact absurd (fY (hk _ _ e)) (Nat.lt_irrefl _)
 exact q _ _ ⟨λb o _ e=>dh _ (hk b o e),rfl,bF.rfl'⟩ ⟨_,vs,rfl,hn,⟨_,cV _ rfl,rfl,_,rfl⟩,hs,hr.dH pA⟩
noncomputable def pairs(i:Nat):List D->List D
 |[]=>[]
 |d::ds=>.tup [.int i,d]::pairs (i+1) ds
theorem It.Ck{I:Addr}{fp Cm:List Addr}{all:List (D×D)}{Pt:Nat->Array Value->Prop}{pC:Nat->Heap->Prop}{XW:Nat->Addr->Heap->Prop}{n:Nat}(W:WalksT C.prog C.w A I fp Cm all.length Pt pC XW)(pA: ∀p∈all,p.1.sc=true/\ p.2.sc=true)
 (hP: ∀j p vals h,all[j]? =some p->Pt j vals-> ∃v1 v2,vals= #[v1,v2]/\ Rep C.wc h (λ_=>True) v1 p.1/\ Rep C.wc h (λ_=>True) v2 p.2) (nR: ∀i h,pC i h-> ∀b∈Cm,(h.get? b).isSome=true):
 It C A I n (λb=>b∈fp) (λwr ds s=>wr=Cm/\ n<=s.gens.size/\ ∃i,ds=(all.drop i).map (λp=>.tup [p.1,p.2])/\ i<=all.length/\ pC i s.heap) where
 step:=λwr d ds s Q J q=>by
  obtain⟨hw,hg,i,e,hi,st⟩:=J
  subst hw
  have jP:i<all.length:=by
   apply Nat.lt_of_not_le
   intro h
   rw[List.drop_eq_nil_of_le h] at e;cases e
  rw[pD jP,bN] at e
  injection e with e1 e2
  refine W.item i s Q _ jP st λT vals h' tk hp hT ht hm hk=>?_
  obtain⟨h1,h2⟩:=pA all[i] (jy jP)
  refine q (.ref T) _ λtarget Q' htg q'=>?_
  have: ∃elts k pos,target= .Tuple elts k pos:=by
   rw[e1] at htg;exact htg
  obtain⟨elts,kk,pos,rfl⟩:=this
  refine W.go elts kk pos i T {s with heap:=h',toks:=tk} Q' _ hm λJE EV E4=>?_
  refine bk λG hG=>?_
  obtain⟨v1,v2,rfl,r1,r2⟩:=hP i all[i] vals JE (cE jP) hp
  refine hG ?_;clear hG G
  refine q' _ wr ⟨λb o hb e=>E4 b o hb (hk b o hb e),rfl,aR _,λ_ _=>rfl,λh=>h⟩ (λb hb=>.inl hb) (nR _ _ EV) (nR _ _ EV) ⟨rfl,hg,i+1,e2,jP,EV⟩ ?_
  rw[e1]
  refine bk λG hG=>?_
  obtain⟨o,ho,hc,nn,hd⟩:=ht
  refine hG ?_;clear hG G
  exact⟨T,_,rfl,trivial,⟨o,E4 T o (W.apart i T h' hm) ho,hc,nn,hd⟩,by show 2<=sizeLine;decide,v1,_,rfl,r1.dH h1,v2,_,rfl,r2.dH h2,rfl⟩
 done:=λwr s Q J q=>by
  obtain⟨hw,hg,i,e,hi,st⟩:=J
  subst hw
  have:i=all.length:=by
   apply bh hi
   apply Nat.le_of_not_lt
   intro h
   rw[pD h] at e;cases e
  subst this
  exact W.done s Q _ st λh' tk hk=>q _ ⟨λb o hb e=>hk b o hb e,rfl,aR _,λ_ _=>rfl,λh=>h⟩
 frame:=λwr ds s s' mu J a uM=>by
  obtain⟨hw,hg,i,e,hi,st⟩:=J
  exact⟨hw,aX hg a.gens.1,i,e,hi,W.frame i _ _ st λb hb o e=>a.heap b o (λm=>(uM b m).1 hb) e⟩
 self:=λwr ds s Q J q=>by
  obtain⟨hw,hg,i,e,hi,st⟩:=J
  exact W.self i s Q _ st q
noncomputable def ou(ds:List D):List (D×D):=ds.zipIdx.map λp=>(.int p.2,p.1)
theorem AS(ds:List D):(ou ds).length=ds.length:=by simp[ou]
theorem pV{ds:List D}{j:Nat}{p:D×D}(h:(ou ds)[j]? =some p): ∃d,ds[j]? =some d/\ p=(.int j,d):=by
 unfold ou at h
 rw[cM] at h
 obtain⟨q,hq,rfl⟩:=pL.mp h
 rw[List.getElem?_zipIdx] at hq
 obtain⟨d,hd,rfl⟩:=pL.mp hq
 exact⟨d,hd,by simp⟩
theorem wL{ds:List D}(h: ∀d∈ds,d.sc=true): ∀p∈ou ds,p.1.sc=true/\ p.2.sc=true:=λp hp=>by
 obtain⟨j,hj,e⟩:=List.getElem_of_mem hp
 obtain⟨d,hd,rfl⟩:=pV (j:=j) (p:=p) (by rw[<-e];exact cE hj)
 exact⟨rfl,h d (pJ hd)⟩
theorem ee.Cn{ds:List D}(pA: ∀d∈ds,d.sc=true):ee C k (.type "enumerate") [.list ds] ((ou ds).map λp=>.tup [p.1,p.2]):=by
 rintro A s _ n Pr Q r B ⟨v,_,rfl,⟨l,vs,rfl,pl,hl,hs,hr⟩,rfl⟩ hn q
 have hlen:=hr.length
 rw[gV] at hlen
 have jP:l<s.heap.objs.size:=hl.lt
 have d0:s.heap.get? s.heap.objs.size=none:=bg _
 have d1:s.heap.get? (s.heap.objs.size+1)=none:=by
  cases e:s.heap.get? (s.heap.objs.size+1) with
  |none=>rfl
  |some o=>exact absurd (fY e) (Nat.not_lt.mpr (Nat.le_succ _))
 refine call_enumerate_list hl.isList λh' he hit hsz hk=>wpAny_pyIter_enum he ?_
 have W:=WalksT.enumerate (prog:=C.prog) (w:=C.w) r.1 (s.heap.objs.size+1) s.heap.objs.size l (Nat.succ_ne_self _) (fj (Nat.lt_succ_of_lt jP)) (fj jP) vs
 have hw: ∀b∈[s.heap.objs.size+1,s.heap.objs.size],s.heap.get? b=none/\ (h'.get? b).isSome=true:=λb hb=>by
  rcases aB.mp hb with rfl|hb
  · exact⟨d1,by rw[he];rfl⟩
  · rw[ay.mp hb]
    obtain⟨o,ho,_⟩:=hit
    exact⟨d0,by rw[ho];rfl⟩
 simp only[hlen,<-AS ds] at W
 refine q _ _ {s with heap:=h'} _ _ ⟨λb o _ e=>hk b o e,rfl,bF.rfl'⟩ hw (It.Ck (n:=n) W (wL pA) (λj p vals h e hp=>?_) (λi h st b hb=>?_)) ⟨rfl,hn,0,rfl,gi _,⟨_,he⟩,hit,hl.isList.at λo e=>hk _ o e⟩ λb hb=>?_
 · obtain⟨d,hd,rfl⟩:=pV e
   obtain⟨t,x,hx,rfl⟩:=hp
   exact⟨_,_,rfl,⟨t,rfl⟩,hr.at' pA hd (by simpa using hx)⟩
 · obtain⟨⟨old,he⟩,⟨o,ho,_⟩,_⟩:=st
   rcases aB.mp hb with rfl|hb
   · rw[he];rfl
   · rw[ay.mp hb,ho];rfl
 · rcases aB.mp hb with rfl|hb
   · exact⟨.inr d1,(hw _ (.head _)).2⟩
   · rcases aB.mp hb with rfl|hb
     · exact⟨.inr d0,(hw _ (.tail _ (.head _))).2⟩
     · rw[ay.mp hb]
       refine⟨.inl pl,?_⟩
       obtain⟨o,_,ho,_⟩:=hl
       show(h'.get? l).isSome=true
       rw[hk _ _ ho];rfl
end
section
variable{C:Cx}{sc:Scope}{ro:List Str}{k:Nat}{σ:Sg}{P:Sg->Fl->Prop}{A:Around}{env:Env}{h₀:Heap}{own:Ow}{s s' bD:Shared}
theorem cellsFrom_some: ∀(names:List (Str×NameKind)) (n:Nat) (acc:List (Str×Addr)) (x:Str),((x,NameKind.cell)∈names \/(acc.lookup x).isSome=true)->((cellsFrom n names acc).lookup x).isSome=true:=by
 intro l0
 induction l0 with
 |nil=>
  intro n acc x h
  rcases h with h|h
  · cases h
  · exact h
 |cons c0 r ih=>
  intro n acc x h
  obtain⟨y,kd⟩:=c0
  unfold cellsFrom
  split
  · rename_i hk
    refine ih (n+1) _ x ?_
    rcases h with h|h
    · rcases aB.mp h with q|h
      · injection q with q;subst q
        exact .inr (by simp)
      · exact .inl h
    · refine .inr ?_
      rw[ff]
      cases (x==y)<;>first|rfl|exact h
  · rename_i hk
    refine ih n _ x ?_
    rcases h with h|h
    · rcases aB.mp h with q|h
      · cases q
        exact absurd rfl hk
      · exact .inl h
    · exact .inr h
theorem AU(f:Str->Option NameKind): ∀(l:List (Str×Value)) (m:Str->Option Value) (x:Str),x∉l.map (·.1)->bindL f l m x=m x:=by
 intro l0
 induction l0 with
 |nil=>
  intro _ _ _
  exact rfl
 |cons c0 r ih=>
  intro m x h
  obtain⟨n,v⟩:=c0
  unfold bindL
  rw[bN,aB,not_or] at h
  rw[ih _ x h.2]
  split
  · exact aa h.1
  · rfl
theorem AV(f:Str->Option NameKind): ∀(l:List (Str×Value)) (m:Str->Option Value) (x:Str),x∉l.map (·.1)->bindC f l m x=m x:=by
 intro l0
 induction l0 with
 |nil=>
  intro _ _ _
  exact rfl
 |cons c0 r ih=>
  intro m x h
  obtain⟨n,v⟩:=c0
  unfold bindC
  rw[bN,aB,not_or] at h
  rw[ih _ x h.2]
  split
  · rfl
  · exact aa h.1
theorem tZ(f:Str->Option NameKind): ∀(l:List (Str×Value)) (m:Str->Option Value) (x:Str) (v:Value),(l.map (·.1)).Nodup->l.lookup x=some v->f x=some .local->bindL f l m x=some v
 |[],_,_,_,_,h,_=>by cases h
 |(n,w)::r,m,x,v,hn,h,hk=>by
  rw[bN,List.nodup_cons] at hn
  unfold bindL
  rw[ff] at h
  cases q:(x==n) with
  |true=>
   rw[q] at h;cases h
   have:x=n:=by simpa using q
   subst this
   rw[af hk,AU f r _ x hn.1];exact af rfl
  |false=>
   rw[q] at h
   exact tZ f r _ x v hn.2 h hk
theorem t_(f:Str->Option NameKind): ∀(l:List (Str×Value)) (m:Str->Option Value) (x:Str) (v:Value),(l.map (·.1)).Nodup->l.lookup x=some v->f x≠some .local->bindC f l m x=some v
 |[],_,_,_,_,h,_=>by cases h
 |(n,w)::r,m,x,v,hn,h,hk=>by
  rw[bN,List.nodup_cons] at hn
  unfold bindC
  rw[ff] at h
  cases q:(x==n) with
  |true=>
   rw[q] at h;cases h
   have:x=n:=by simpa using q
   subst this
   rw[aa hk,AV f r _ x hn.1];exact af rfl
  |false=>
   rw[q] at h
   exact t_ f r _ x v hn.2 h hk
theorem Co{C:Cx}{k:Nat}{a:Addr}{o:Obj}{pm cd doc:Value}{name:Str}{params:Arguments}{body:List Stmt}{scope:Scope}{ds:List D}{A:Around}{s:Shared}{vs:List Value}{hB:Heap}{Ps:List Addr}{Pr:Addr->Prop}{Q:Value->Shared->Prop}
 (ho:s.heap.get? a=some o) (hd:o.data= .func (Calls.docDef name params body scope pm cd doc)) (tU:s.heap.CodeRec cd name) (r:bH A (k+1)) (Bh:C.B hB) (hg: ∀b o,hB.get? b=some o->s.heap.get? b=some o) (hid: ∀b∈Ps,hB.get? b=none) (Gs: ∀b∈Ps,(s.heap.get? b).isSome=true)
 (hP: ∀b,Pr b->b∉Ps) (gK:aU C.wc s.heap Pr vs ds) (hb:bindArgs (Calls.docDef name params body scope pm cd doc) ⟨vs,[]⟩=pure ((params.args.map (·.arg)).zip vs))
 (hl:(params.args.map (·.arg)).length=ds.length) (qp:(params.args.map (·.arg)).Nodup)
 (iL: ∀x∈params.args.map (·.arg),scope.names.lookup x=some .local \/scope.names.lookup x=some .cell) (hfree: ∀x∈scope.names,x.2≠.free)
 (d_: ∀A' env al ah,bH A' k->env.code=cd->env.qual=name++ ".<locals>." ->St C scope [] env hB (gZ (params.args.map (·.arg)) ds) ⟨al++Ps,al⟩ ah->cG s ah->(∀b∈al,s.heap.get? b=none)->
   wpAny (model C.prog C.w) A' (execs body env) (λf s'=>Q (match f with| .ret v=>v|_=>.none) s') (λ_ _=>False) ah)
 (hk:scope.kind= .function) (rO:scope.isCoroutine=false) (jN:scope.isGenerator=false):wpAny (model C.prog C.w) A (PySem.call (.ref a) vs) Q (λ_ _=>False) s:=by
 have hlen:=gK.length
 have uZ: ∀{x:Str},scope.names.lookup x=some .cell->(x,NameKind.cell)∈scope.names:=λ{x} h=>by
  obtain⟨uN,yf,e,_⟩:=ly.mp h
  rw[e];simp
 have Lp: ∀x∈(params.args.map (·.arg)).zip vs,scope.names.lookup x.1=some .local \/(scope.names.lookup x.1=some .cell/\ ((cellsFrom (s.heap.objs.size+1) scope.names []).lookup x.1).isSome=true):=λx hx=>
  (iL _ (kq hx).1).imp id λh=>⟨h,cellsFrom_some _ _ _ _ (.inl (uZ h))⟩
 refine wpAny_call (codeAny_call_cells (binds:=(params.args.map (·.arg)).zip vs) r.lt ho hd (C.nolimit _ (C.keeps _ _ Bh hg)) tU rfl hb rfl Lp (λah X=>?_) rO jN hk)
 let fd:=Calls.docDef name params body scope pm cd doc
 let env:=callEnvC fd s.heap.objs.size a
 let cs:=cellsFrom (s.heap.objs.size+1) scope.names []
 let names:=(scope.names.filter λy=>y.2== .cell).map (·.1)
 let al:=s.heap.objs.size::names.filterMap (λy=>cs.lookup y)
 have dead: ∀b∈al,s.heap.get? b=none:=λb hb=>by
  rcases aB.mp hb with rfl|hb
  · exact bg _
  · obtain⟨n,_,e⟩:=rF.mp hb
    have:=X.above n b (mem_of_lookup e)
    cases q:s.heap.get? b with
    |none=>rfl
    |some o=>exact absurd (fY q) (Nat.not_lt.mpr (Nat.le_of_lt this))
 have alive: ∀b∈al,(ah.heap.get? b).isSome=true:=λb hb=>by
  rcases aB.mp hb with rfl|hb
  · obtain⟨oL,_,_,h,_⟩:=X.toInCall.ns
    show(ah.heap.get? env.locals).isSome=true
    rw[h];rfl
  · obtain⟨n,_,e⟩:=rF.mp hb
    obtain⟨o,h,_⟩:=X.cell n b e
    rw[h];rfl
 have GG:(((params.args.map (·.arg)).zip vs).map (·.1)).Nodup:=by
  rw[List.map_fst_zip (Q84 hl hlen)];exact qp
 have S:St C scope [] env hB (gZ (params.args.map (·.arg)) ds) ⟨al++Ps,al⟩ ah:={
  scope:=rfl
  kind:=hk
  glob:=rfl
  blt:=rfl
  base:=Bh
  keep:=λb o e=>X.toInCall.keep b o (hg b o e)
  fresh:=λb hb=>by
   rcases bB.mp hb with hb|hb
   · cases z:hB.get? b with
     |none=>rfl
     |some o=>have:=dead b hb;rw[hg _ _ z] at this;cases this
   · exact hid b hb
  alive:=λb hb=>by
   rcases bB.mp hb with hb|hb
   · exact alive b hb
   · obtain⟨o,z⟩:=c_.mp (Gs b hb)
     rw[X.toInCall.keep b o z];rfl
  ns:=⟨_,X.toInCall.ns⟩
  eN:=.head _
  sub:=λ_ h=>dY _ h
  cells:=λx hx _=>by
   have hm:=uZ (x:=x) hx
   obtain⟨c,hc⟩:=c_.mp (cellsFrom_some scope.names (s.heap.objs.size+1) [] x (.inl hm))
   exact⟨c,_,hc,X.cell x c hc,.tail _ (rF.mpr ⟨x,aQ.mpr ⟨_,fh.mpr ⟨hm,rfl⟩,rfl⟩,hc⟩)⟩
  gb:=λx y c _ _ _ h1 h2=>name_of_addr X.apart (mem_of_lookup h1) (mem_of_lookup h2)
  free:=λx hx=>by
   have:(x,NameKind.free)∈scope.names:=by
    have h:scope.names.lookup x=some .free:=hx
    obtain⟨uN,yf,e,_⟩:=ly.mp h
    rw[e];simp
   exact absurd rfl (hfree _ this)
  pe:=λx c hx=>by cases hx
  vars:=λx f d' e=>by
   obtain⟨rfl,v,hv,rp⟩:=iS gK e
   have hx:x∈params.args.map (·.arg):=by
    obtain⟨uN,yf,e,_⟩:=ly.mp hv
    have:(x,v)∈(params.args.map (·.arg)).zip vs:=by rw[e];simp
    exact(kq this).1
   have sl:Slot C.wc ah.heap ⟨al++Ps,al⟩ false v d':=(Rep.alive rp).mono (λb hb hm=>by
    rcases bB.mp hm with hm|hm
    · have h2:=hb.2
      rw[dead b hm] at h2;cases h2
    · exact hP b hb.1 hm) λb o _ e=>X.toInCall.keep b o e
   rcases iL x hx with wH|JF
   · exact⟨v,.inl ⟨wH,_,X.toInCall.ns,tZ _ _ _ _ _ GG hv wH⟩,sl⟩
   · obtain⟨c,hc⟩:=c_.mp (cellsFrom_some scope.names (s.heap.objs.size+1) [] x (.inl (uZ JF)))
     have:=X.cell x c hc
     rw[t_ _ _ _ _ _ GG hv (by rw[show(callEnvC fd s.heap.objs.size a).kindOf x=some .cell from JF];decide)] at this
     exact⟨v,.inr ⟨.inl JF,c,hc,this⟩,sl⟩
  inj:=λx y dx dy b e1=>by
   obtain⟨h,_⟩:=iS gK e1
   cases h}
 obtain⟨hh,tk,es⟩:=X.toInCall.same
 have az:cG s ah:=⟨λb o _ e=>X.toInCall.keep b o e,by rw[es],by rw[es];exact bF.rfl'⟩
 exact aT (d_ _ env al _ (r.deeper env) rfl rfl S az dead) (λ_ _ h=>h) λ_ _ h=>h.elim
theorem Fn.cells{C:Cx}{k:Nat}{a:Addr}{name:Str}{params:Arguments}{body:List Stmt}{scope:Scope}{ds:List D}{d:D}(hf:FnAt C a name params body scope)
 (hb: ∀pm cd doc (vs:List Value),vs.length=ds.length->bindArgs (Calls.docDef name params body scope pm cd doc) ⟨vs,[]⟩=pure ((params.args.map (·.arg)).zip vs))
 (hl:(params.args.map (·.arg)).length=ds.length) (qp:(params.args.map (·.arg)).Nodup)
 (iL: ∀x∈params.args.map (·.arg),scope.names.lookup x=some .local \/scope.names.lookup x=some .cell) (hfree: ∀x∈scope.names,x.2≠.free)
 (d_:Ex C scope [] k (gZ (params.args.map (·.arg)) ds) body λ_ fl=>fl= .ret d \/(fl= .next/\ d= .none))
 (hk:autoParam (scope.kind= .function) au) (rO:autoParam (scope.isCoroutine=false) au) (jN:autoParam (scope.isGenerator=false) au):Fn C (k+1) (.ref a) ds d:=by
 intro A s vs Q r B gK q
 refine bk λG hG=>?_
 obtain⟨o,pm,cd,doc,ho,hd,tU⟩:=hf _ B
 refine hG ?_;clear hG G
 refine Co (Ps:=[]) ho hd tU r B (λ_ _ e=>e) (λ_ h=>nomatch h) (λ_ h=>nomatch h) (λ_ _ h=>nomatch h) gK (hb pm cd doc vs gK.length) hl qp iL hfree (λA' env al ah r' _ _ S az _=>?_) hk rO jN
 refine d_ A' env _ _ _ _ r' S λf fl s' aq own' av o1 o2 S' fi p=>?_
 have cX:cG s s':=⟨λb o _ e=>S'.keep b o e,av.os.trans az.os,az.gens.trans av.gens⟩
 rcases p with rfl|⟨rfl,rfl⟩
 · obtain⟨v,rfl,rp⟩:=fi
   exact q v s' cX rp
 · subst fi
   exact q .none s' cX rfl
end
section
variable{C:Cx}{sc:Scope}{ro:List Str}{k:Nat}{σ:Sg}{P:Sg->Fl->Prop}{A:Around}{env:Env}{h₀:Heap}{own:Ow}{s s' bD:Shared}
theorem Cp{x y:Str}{g:Bool}{d₁ d₂:D}{pW ni:Value}{Q:Unit->Shared->Prop}(S:St C sc ro env h₀ σ own s)(s1:Slot C.wc s.heap own false pW d₁)(s2:Slot C.wc s.heap own g ni d₂)(hx:Bound sc ro x)(hy:Bound sc ro y)
 (NU:g=true-> ∀z dz,σ.get z=some (true,dz)-> ¬cg env s.heap z ni)
 (q: ∀s',aO own.mu s s'->St C sc ro env h₀ ((σ.set x false d₁).set y g d₂) own s'->Q () s'):
 wpAny (model C.prog C.w) A (storeName env x pW) (λ_ ah=>wpAny (model C.prog C.w) A (storeName env y ni) Q (λ_ _=>False) ah) (λ_ _=>False) s:=by
 refine S.Ca s1 hx.1 hx.2 (λhf=>nomatch hf) λah az uN E5 bE=>?_
 refine bE.store (s2.XG S.sub az uN) hy.1 hy.2 (λhg z dz hz e va=>?_) λaE a₂ _ bK=>q aE (az.trans a₂ λz hz=>.inl hz) bK
 rw[Sg.get_set] at e
 by_cases q:z=x
 · rw[af q] at e
   cases e
 · rw[aa q] at e
   obtain⟨w,lV,_⟩:=S.vars z _ _ e
   have:=(E5 z w q lV).det va
   subst this
   exact NU hg z dz e lV
theorem yr{x y:Str}{d₁ d₂:D}{pW ni:Value}{Q:Unit->Shared->Prop}(S:St C sc ro env h₀ σ own s)(s1:Slot C.wc s.heap own false pW d₁)(s2:Slot C.wc s.heap own false ni d₂)(hx:Bound sc ro x)(hy:Bound sc ro y)
 (q: ∀s',aO own.mu s s'->St C sc ro env h₀ ((σ.set y false d₂).set x false d₁) own s'->Q () s'):
 wpAny (model C.prog C.w) A (storeName env y ni) (λ_ ah=>wpAny (model C.prog C.w) A (storeName env x pW) Q (λ_ _=>False) ah) (λ_ _=>False) s:=
 Cp S s2 s1 hy hx (λh=>nomatch h) q
noncomputable def dj(C:Cx)(sc:Scope)(ro:List Str)(k:Nat)(σ:Sg)(e:Expr)(d₁:D)(g:Bool)(d₂:D):Prop:=
 ∀(A:Around) (env:Env) (h₀:Heap) (own:Ow) (s:Shared) (Q:Value->Shared->Prop),bH A k->St C sc ro env h₀ σ own s->
  (∀a pW ni s' own',cG s s'->(∀b∈own.av,b∈own'.av)->(∀b∈own'.mu,b∈own.mu \/s.heap.get? b=none)->St C sc ro env h₀ σ own' s'->IsTup s'.heap a #[pW,ni]->Slot C.wc s'.heap own' false pW d₁->Slot C.wc s'.heap own' g ni d₂->
    (g=true-> ∀z dz,σ.get z=some (true,dz)-> ¬cg env s'.heap z ni)->Q (.ref a) s')->wpAny (model C.prog C.w) A (eval e env) Q (λ_ _=>False) s
theorem dj.clean{e:Expr}{d₁ d₂:D}(h:Ev C sc ro k σ e .clean (.tup [d₁,d₂])):dj C sc ro k σ e d₁ false d₂:=
 λA env h₀ own s Q r S q=>h A env h₀ own s Q r S λv s' a rp=>by
  obtain⟨b,vs,rfl,pb,ht,hs,v1,r1,e1,p1,v2,r2,e2,p2,e3⟩:=rp
  have zw:vs= #[v1,v2]:=by
   apply Array.ext'
   rw[e1,e2,e3]
  subst zw
  exact q b v1 v2 s' own a (λ_ h=>h) (λ_ h=>.inl h) (S.cX a) ht (p1.mono (λ_ p=>p.1) λ_ _ _ e=>e) (p2.mono (λ_ p=>p.1) λ_ _ _ e=>e) λh=>nomatch h
theorem dj.Lq{e:Expr}{d₁:D}{ds:List D}(h1:d₁.sc=true)(h:Ev C sc ro k σ e .fresh (.tup [d₁,.list ds])):dj C sc ro k σ e d₁ true (.list ds):=
 λA env h₀ own s Q r S q=>h A env h₀ own s Q r S λv s' a rp=>by
  obtain⟨b,vs,rfl,pb,ht,hs,v1,r1,e1,p1,v2,r2,e2,p2,e3⟩:=rp
  have zw:vs= #[v1,v2]:=by
   apply Array.ext'
   rw[e1,e2,e3]
  subst zw
  obtain⟨c,rfl,hc,S',sl,hi⟩:=nU (Pr:=λz=>z≠b) S a (p2.mono (λ_ p=>p) λ_ _ _ e=>e)
  exact q b v1 (.ref c) s' ⟨c::own.av,c::own.mu⟩ a (λ_ h=>.tail _ h) (λz hz=>(aB.mp hz).elim (λe=>.inr (e▸hc)) .inl) S' ht (p1.dH h1) sl λ_=>hi
theorem cH.pair{x y:Str}{px py tp pos:Pos}{kk:Nat}{e:Expr}{d₁ d₂:D}{g:Bool}(h:dj C sc ro k σ e d₁ g d₂)(hx:Bound sc ro x)(hy:Bound sc ro y)(hp:P ((σ.set x false d₁).set y g d₂) .next)
 (hs: ∀env,env.scope=sc->swapsWithSole [.Tuple [.Name x px,.Name y py] kk tp] e pos.line env=pure false:=by intro env h;cases env;cases h;rfl)
 (hw: ∀env,env.scope=sc->swappedStores [.Tuple [.Name x px,.Name y py] kk tp] e env=pure none:=by intro env h;cases env;cases h;rfl):
 cH C sc ro k σ (.Assign [.Tuple [.Name x px,.Name y py] kk tp] e pos) P:=by
 intro A env h₀ own s Q r S q
 refine Assign_Tuple (h A env h₀ own s _ r S λa pW ni ah rM az o1 o2 bE ht s1 s2 hi=>?_) (hs env S.scope) (hw env S.scope)
 refine wpAny_assign_Tuple (items:=#[pW,ni]) r.1 ht rfl rfl λh' ET=>?_
 have ad:cG ah {ah with heap:=h'}:=⟨λb o' _ e=>ET b o' (fj (fY e)) e,rfl,bF.rfl'⟩
 have bK:=bE.cX ad
 have aY:=az.trans ad
 refine pN (fL (aT (Cp bK (Slot.mono s1 λb o e=>ad.get e) (Slot.mono s2 λb o e=>ad.get e) hx hy (λhg z dz e va=>?_) (Q:=λ_ cP=>Q .next cP) λaV cL dX=>?_)
  (λ_ aV tD=>pN (fL (aT tD (λ_ _ h=>wpAny_assignInOrder_none h) λ_ _ h=>h))) λ_ _ h=>h))
 · obtain⟨w,lV,_⟩:=bE.vars z _ _ e
   have:=(lV.mono λb o e=>ad.get e).det va
   subst this
   exact hi hg z dz e lV
 · exact q .next .next aV _ rM (aO.trans ⟨λb o _ e=>aY.get e,aY.os,aY.gens⟩ cL λz hz=>o2 z hz) (λb hb _=>o1 b hb) o2 dX rfl hp
theorem cH.wM{x y:Str}{px py tp pos:Pos}{kk:Nat}{e:Expr}{d₁ d₂:D}(h:dj C sc ro k σ e d₁ false d₂)(hx:Bound sc ro x)(hy:Bound sc ro y)(hp:P ((σ.set y false d₂).set x false d₁) .next)
 (hs: ∀env,env.scope=sc->swapsWithSole [.Tuple [.Name x px,.Name y py] kk tp] e pos.line env=pure false:=by intro env h;cases env;cases h;rfl)
 (hw: ∀env,env.scope=sc->swappedStores [.Tuple [.Name x px,.Name y py] kk tp] e env=pure (some [x,y]):=by intro env h;cases env;cases h;rfl):
 cH C sc ro k σ (.Assign [.Tuple [.Name x px,.Name y py] kk tp] e pos) P:=by
 intro A env h₀ own s Q r S q
 refine Assign_Tuple_swapped (names:=[x,y]) (h A env h₀ own s _ r S λa pW ni ah rM az o1 o2 bE ht s1 s2 hi=>?_) (hs env S.scope) (hw env S.scope)
 refine unpackItems_tuple (items:=#[pW,ni]) r.1 ht λh' ET=>?_
 have ad:cG ah {ah with heap:=h'}:=⟨λb o' _ e=>ET b o' (fj (fY e)) e,rfl,bF.rfl'⟩
 have bK:=bE.cX ad
 have aY:=az.trans ad
 refine pN (wpAny_bindName (aT (yr bK (Slot.mono s1 λb o e=>ad.get e) (Slot.mono s2 λb o e=>ad.get e) hx hy (Q:=λ_ cP=>Q .next cP) λaV cL dX=>?_)
  (λ_ aV tD=>pN (wpAny_bindName (aT tD (λ_ _ h=>wpAny_assignInOrder_none h) λ_ _ h=>h))) λ_ _ h=>h))
 exact q .next .next aV _ rM (aO.trans ⟨λb o _ e=>aY.get e,aY.os,aY.gens⟩ cL λz hz=>o2 z hz) (λb hb _=>o1 b hb) o2 dX rfl hp
theorem cH.three{x y z:Str}{px py pz pos:Pos}{e:Expr}{d:D}{md:Md}(h:Ev C sc ro k σ e md d)(hd:d.sc=true)(hx:Bound sc ro x)(hy:Bound sc ro y)(hz:Bound sc ro z)
 (hp:P (((σ.set x false d).set y false d).set z false d) .next):cH C sc ro k σ (.Assign [.Name x px,.Name y py,.Name z pz] e pos) P:=by
 intro A env h₀ own s Q r S q
 refine wpAny_Assign_three (h A env h₀ own s _ r S λv ah az rp=>?_) rfl (by cases e<;>rfl)
 have bE:=S.cX az
 refine fL (bE.store (f:=false) (d:=d) (rp.dH hd) hx.1 hx.2 (λh=>nomatch h) λaE a₂ _ bK=>?_)
 refine fL (bK.store (f:=false) (d:=d) (rp.dH hd) hy.1 hy.2 (λh=>nomatch h) λaV cL _ dX=>?_)
 refine fL (dX.store (f:=false) (d:=d) (rp.dH hd) hz.1 hz.2 (λh=>nomatch h) λcP fm _ gf=>?_)
 exact q .next .next cP _ own (aO.trans (aO.trans (aO.trans ⟨λb o _ e=>az.get e,az.os,az.gens⟩ a₂ λz hz=>.inl hz) cL λz hz=>.inl hz) fm λz hz=>.inl hz) (λ_ h _=>h) (λ_ h=>.inl h) gf rfl hp
end
section
variable{C:Cx}{sc:Scope}{ro:List Str}{k:Nat}{σ:Sg}{P:Sg->Fl->Prop}{A:Around}{env:Env}{h₀:Heap}{own:Ow}{s s' bD:Shared}
theorem Fn.divmod{a b:Int}(hb:b≠0)(hp:Builtin.divisionGoesByPylong a b=false):Fn C k (.builtin "divmod") [.int a,.int b] (.tup [.int (a.fdiv b),.int (a.fmod b)]):=by
 rintro A s _ Q r B ⟨v,_,rfl,⟨t,rfl⟩,⟨v',_,rfl,⟨u,rfl⟩,rfl⟩⟩ q
 refine divmod_int hb (q _ _ (cG.push s _ _) ⟨_,_,rfl,bg _,⟨_,cV _ rfl,rfl,_,rfl⟩,by show 2<=sizeLine;decide,_,_,rfl,⟨_,rfl⟩,_,_,rfl,⟨_,rfl⟩,rfl⟩) (.inl hp)
theorem ee.reversed{ds:List D}(pA: ∀d∈ds,d.sc=true):ee C k (.type "reversed") [.list ds] ds.reverse:=by
 rintro A s _ n Pr Q r B ⟨v,_,rfl,⟨l,vs,rfl,pl,hl,hs,hr⟩,rfl⟩ hn q
 have hlen:=hr.length
 rw[gV] at hlen
 have jP:l<s.heap.objs.size:=hl.lt
 have d0:s.heap.get? s.heap.objs.size=none:=bg _
 refine call_reversed_list hl.isList ?_
 have hit:(s.heap.push (revObj l ((vs.size:Int)-1))).IsRevIter s.heap.objs.size l ((vs.size:Int)-1):=⟨_,cV _ rfl,rfl,rfl⟩
 refine wpAny_pyIter_revIter hit ?_
 have W:=Walks.listRev (prog:=C.prog) (w:=C.w) r.1 s.heap.objs.size l (fj jP) vs
 have al:((s.heap.push (revObj l ((vs.size:Int)-1))).get? s.heap.objs.size).isSome=true:=by rw[cV _ rfl];rfl
 have e1:vs.size=ds.reverse.length:=by rw[List.length_reverse];exact hlen
 rw[e1] at W
 have XX: ∀d∈ds.reverse,d.sc=true:=λd hd=>pA d (List.mem_reverse.mp hd)
 refine q _ [_] _ _ _ (cG.push s _ s.toks) (λb hb=>by rw[ay.mp hb];exact⟨d0,al⟩) (It.ofWalks (n:=n) W XX (λj d v h e hv=>?_) (λi h st=>by obtain⟨_,⟨o,ho,_⟩,_⟩:=st;rw[ho];rfl)) ⟨rfl,hn,0,rfl,gi _,gi _,?_,hl.isList.push _⟩ λb hb=>?_
 · have hj:j<ds.length:=by
    have:=(iW.mp e).1
    simpa using this
   rw[List.getElem?_reverse hj] at e
   rw[List.length_reverse,<-hlen] at hv
   rw[<-hlen] at e
   exact hr.at' pA e (by simpa using hv)
 · rw[<-e1];simpa using hit
 · rcases aB.mp hb with rfl|hb
   · exact⟨.inr d0,al⟩
   · rw[ay.mp hb]
     refine⟨.inl pl,?_⟩
     obtain⟨o,_,ho,_⟩:=hl
     show(Heap.get? (s.heap.push _) l).isSome=true
     rw[dh _ ho];rfl
theorem cH.reverse{x:Str}{px apos iM pos:Pos}{ds:List D}(hx:σ.get x=some (true,.list ds))(hp:P (σ.set x true (.list ds.reverse)) .next)
 (cJ:autoParam (∀env,attributeBase (.Name x px) "reverse" env (eval (.Name x px) env)=eval (.Name x px) env) au)
 (aF:autoParam ((apos.endLine==iM.line)=true) au) (vZ:autoParam ((x==("__debug__" :Str))=false) au):
 cH C sc ro k σ (.Expr (.Call (.Attribute (.Name x px) "reverse" apos) [] [] iM) pos) P:=by
 intro A env h₀ own s Q r S q
 refine bk λG hG=>?_
 obtain⟨v,va,a,vs,ds',rfl,h1,kh,e3,h2,h3,h4⟩:=S.vars x _ _ hx
 refine hG ?_;clear hG G
 injection e3 with e3;subst e3
 have hi:interactive env=false:=by
  unfold interactive
  rw[S.scope,S.kind];rfl
 refine bk λG hG=>?_
 obtain⟨⟨cls,dd,data,sl⟩,kk,ho,jJ,AM,hd⟩:=id h2
 refine hG ?_;clear hG G
 simp only at jJ AM hd
 subst jJ AM hd
 refine wpAny_Expr (Call_method0 (cJ env) aF (nX S va vZ ?_)) hi rfl
 refine⟨"list","list.reverse",PySem.F.plainAttrs_list,PySem.F.slot_list_reverse,PySem.F.type_list_reverse,h2.isList.typeIs,λb e=>by injection e with e;subst e;exact⟨_,ho,rfl⟩,Calls.callWith_builtin rfl (PySem.evalArgs_none ?_)⟩
 have Cq:wpAny (model C.prog C.w) A (PySem.call (.builtin "list.reverse") [.ref a]) (λr s'=>r= .none/\ s'={s with heap:=s.heap.update a (Obj.mapSeq λx=>x.reverse)}) (λ_ _=>False) s:=by
  refine wpAny_call_entry PySem.F.slot_list_reverse h2.isList.typeIs PySem.F.entry_list_reverse ?_ (PySem.F.args_list_reverse_1 _)
  show wpAny _ _ (updateSeq a (·.reverse)>>=λ_=>PySem.ret .none) _ _ s
  refine ao ?_
  exact wpAny_updateSeq ho rfl (aJ ⟨.none,rfl,rfl,rfl⟩)
 refine aT Cq (λrr s' ⟨e1,e2⟩=>?_) λ_ _ h=>h
 rw[e1];subst e2
 have pQ:=PlainL.turn (·.reverse) h2
 have nY:Heap.SameBut a s.heap (s.heap.update a (Obj.mapSeq λx=>x.reverse)):=Heap.SameBut.update ..
 have rev: ∀{vs:List Value} {ds:List D} {P':Addr->Prop} {h:Heap},aU C.wc h P' vs ds->aU C.wc h P' vs.reverse ds.reverse:=by
  intro vs ds P' h
  induction ds generalizing vs with
  |nil=>intro x;subst x;exact rfl
  |cons d ds ih=>
   rintro ⟨v,r,rfl,a,b⟩
   simp only[List.reverse_cons,List.reverse_cons]
   exact(ih b).append ⟨v,[],rfl,a,rfl⟩
 have bK:=S.uR (t:=s.toks) hx va h1 h2 nY pQ (by simpa using h3) (ds':=ds.reverse) (by rw[Array.toList_reverse];exact rev h4)
 show Q Flow.next _
 exact q .next .next _ _ own ⟨λb o hb e=>(nY.2 b λz=>hb (z▸h1)).trans e,rfl,bF.rfl'⟩ (λb hb _=>hb) (λb hb=>.inl hb) bK rfl hp
theorem u_{l m:List Int}:(((List.range (min l.length m.length)).all λj=>(l.getD j 0==m.getD j 0))&&(l.length==m.length))=(l==m):=by
 rw[Bool.eq_iff_iff]
 simp only[cY,dM,bS,beq_iff_eq]
 constructor
 · rintro ⟨h,he⟩
   apply List.ext_getElem he
   intro i h1 h2
   have:=h i (Tw h1 he)
   simpa [bM,h1,h2] using this
 · rintro rfl;exact⟨λ_ _=>rfl,rfl⟩
theorem aH.H6{l m:List Int}{a b:Int}:aH C k .Eq (.tup [DT l,.int a]) (.tup [DT m,.int b]) (l==m&&a==b):=λA s va vb Q rm B ra rb q=>by
 refine bk λG hG=>?_
 obtain⟨p,vs,rfl,_,hp,_,v1,r1,e1,⟨c,ws,rfl,pc,hc,Cf,hcr⟩,v2,r2,e2,⟨t,rfl⟩,e3⟩:=ra
 obtain⟨p',tC,rfl,_,EP,_,v1',r1',NQ,⟨c',ws',rfl,pc',qq,aam,XY⟩,v2',r2',tR,⟨t',rfl⟩,e3'⟩:=rb
 refine hG ?_;clear hG G
 have zw:vs= #[.ref c,.int a t]:=by apply Array.ext';rw[e1,e2,e3]
 have Cr:tC= #[.ref c',.int b t']:=by apply Array.ext';rw[NQ,tR,e3']
 subst zw;subst Cr
 have h1:=hcr.toInts
 have h2:=XY.toInts
 have n1:=jQ h1
 have n2:=jQ h2
 rw[gV] at n1 n2
 have hu:A.units<cLine:=by have:=rm.units;exact OC this
 have hu':A.in1.units<cLine:=by have:=rm.units;show A.units+1<cLine;exact Rn this
 have first:SeqAt.EqAt A.in1 s (.ref c) (.ref c') (l==m):=by
  by_cases ES:c=c'
  · subst ES
    refine bk λG hG=>?_
    obtain⟨o,ho,_,nn,hd⟩:=hc
    obtain⟨o',Jy,_,nn',nW⟩:=qq
    refine hG ?_;clear hG G
    rw[ho] at Jy;injection Jy with Jy;subst Jy
    rw[hd] at nW;injection nW with nW;subst nW
    have:l=m:=by
     apply List.ext_getElem (QT n1 n2)
     intro i hi hj
     obtain⟨t1,x1⟩:=ints_get h1 (j:=i) (by rw[gV];exact Q1 hi n1)
     obtain⟨t2,x2⟩:=ints_get h2 (j:=i) (by rw[gV];exact Q1 hi n1)
     rw[x1] at x2
     injection x2 with x2 _
     simpa [bM,hi,hj] using x2
    rw[this]
    rw[beq_self_eq_true]
    exact SeqAt.EqAt.same _
  · refine SeqAt.EqAt.of_refs ES ?_
    have:=SeqAt.RcAt.tuples (A:=A.in1) (e:=λj=>l.getD j 0==m.getD j 0) hc qq hu' (λj h3 h4=>by
     obtain⟨t,e⟩:=ints_get h1 (j:=j) (h3)
     obtain⟨u,e'⟩:=ints_get h2 (j:=j) (h4)
     rw[Array.getElem_toList] at e e'
     simp only[e,e']
     exact SeqAt.EqAt.int_int _ _ _ _)
    simp only[n1,n2,u_] at this
    exact this
 refine SeqAt.eq_tupleAt (e:=λj=>if j=0 then(l==m) else(a==b)) hp EP hu (λj h3 h4=>?_) (q _ _ (aO.refl _ _) ?_)
 · match j,h3,h4 with
   |0,_,_=>exact first
   |1,_,_=>exact SeqAt.EqAt.int_int _ _ _ _
   |n+2,h3,_=>exact absurd h3 (by simp)
 · show Value.bool (((List.range 2).all λj=>if j=0 then(l==m) else(a==b))&&true)=Value.bool _
   simp[List.range_succ]
end
structure WsK(K:Frag)(wc:Addr):Prop where
 dict:(clsIn K wc).any (·.hasDict)=true
 ga:findIn K (.ref wc) "__getattribute__" =some (some (.builtin "object.__getattribute__"))
 Lr:findIn K (.ref wc) "__getattr__" =some none
 keys: ∀x∈gj,findIn K (.ref wc) x=some none
theorem rZ{h:Heap}{dx:Addr}{m:Str->Option Value}(hn:h.Ns dx m): ∃od,h.get? dx=some od/\ ∀x,lookIn x od=some (m x):=by
 refine bk λG hG=>?_
 obtain⟨o,es,ep,ho,hd,hk,hf⟩:=hn
 refine hG ?_;clear hG G
 refine⟨o,ho,λx=>?_⟩
 unfold lookIn
 rw[hd]
 have e:(es.toList.find? λen=>en.key.isStr x).map (·.val)=m x:=by
  rw[<-hf x]
  delta nsFind findBy
  rw[<-Array.find?_toList]
 have nr:es.toList.any (·.refKey)=false:=by
  rw[List.any_eq_false]
  intro en yt
  obtain⟨n,t,XZ⟩:=hk en (by simpa using yt)
  unfold DictEntry.refKey
  rw[XZ];simp
 dsimp only
 cases q:es.toList.find? λen=>en.key.isStr x with
 |some en=>
  rw[q] at e
  dsimp only
  rw[<-e];rfl
 |none=>
  rw[q] at e
  dsimp only
  rw[nr,<-e];rfl
theorem AW{h:Heap}{dx:Addr}{m:Str->Option Value}(hn:h.Ns dx m)(x:Str)(v:Value)(hv:m x=some v): ∃od,h.get? dx=some od/\ lookIn x od=some (some v):=by
 obtain⟨od,ho,hl⟩:=rZ hn
 exact⟨od,ho,by rw[hl,hv]⟩
section
variable{C:Cx}{sc:Scope}{ro:List Str}{k:Nat}{σ:Sg}{P:Sg->Fl->Prop}{A:Around}{env:Env}{h₀:Heap}{own:Ow}{s s' bD:Shared}
theorem wN{K:Frag}{prog:Program}{w:World}{E:Value->Shared->Prop}{a dx wc:Addr}{m:Str->Option Value}{x:Str}{v:Value}{expr:Bool}{Q:Value->Shared->Prop}(Y:WsK K wc)(X:K.In s.heap)(hi:pO wc s.heap a dx m)(hx:x∈gj)(hv:m x=some v)(hh:handedIn v=true)
 (q:Q v {s with toks:=s.toks+1}):wpAny (model prog w) A (getAttr (.ref a) x expr) Q E s:=by
 obtain⟨od,ho,hl⟩:=AW hi.2 x v hv
 have I:InstAt s.heap a (instObj wc dx) wc (some od):=⟨hi.1,rfl,rfl,ho⟩
 refine get_value X I Y.ga ?_ hh q
 obtain⟨cd,hc,hd⟩:=any_some Y.dict
 unfold findObj
 rw[hc,Option.bind_some,Y.keys x hx,Option.bind_some]
 show(W.ownOf cd (some od) x).bind _=_
 unfold W.ownOf
 rw[af hd]
 show(lookIn x od).bind _=_
 rw[hl];rfl
theorem qW{K:Frag}{o:Expr}{x:Str}{pos:Pos}{md:Md}{w:WS}{d:D}(hK: ∀h,C.B h->K.In h)(Y:WsK K C.wc)(hx:x∈gj)(h:Ev C sc ro k σ o md (.ws w))
 (hv: ∀(hp:Heap) (Pr:Addr->Prop) (v:Value),Rep C.wc hp Pr v (.ws w)-> ∃a dx m u,v= .ref a/\ pO C.wc hp a dx m/\ m x=some u/\ handedIn u=true/\ Rep C.wc hp Pr u d)
 (he: ∀env,eval (.Attribute o x pos) env=(do
   let ov<-eval o env
   standAt pos.atName
   let r<-holding [ov] (getAttr ov x true)
   letTemporaryGo o ov r
   pure r):=by intro _;with_unfolding_all rfl):Ev C sc ro k σ (.Attribute o x pos) md d:=by
 intro A env h₀ own s Q r S q
 rw[he]
 refine ao (h A env h₀ own s _ r S λv ah az rp=>?_)
 refine bk λG hG=>?_
 obtain⟨a,dx,m,u,rfl,hi,hm,hh,ru⟩:=hv _ _ _ rp
 refine hG ?_;clear hG G
 refine ao (fM (ao (dZ (wN Y (hK _ (S.cX az).B) hi hx hm hh ?_))))
 exact ao (wpAny_letTemporaryGo (aJ (q u _ (az.trans (cG.tok ah _)) ru)))
theorem Ev.X0{K:Frag}{o:Expr}{pos:Pos}{md:Md}{w:WS}(hK: ∀h,C.B h->K.In h)(Y:WsK K C.wc)(h:Ev C sc ro k σ o md (.ws w))
 (he: ∀env,eval (.Attribute o "n" pos) env=(do
   let ov<-eval o env
   standAt pos.atName
   let r<-holding [ov] (getAttr ov "n" true)
   letTemporaryGo o ov r
   pure r):=by intro _;with_unfolding_all rfl):Ev C sc ro k σ (.Attribute o "n" pos) md (.int w.n):=
 qW hK Y (by decide) h (λhp Pr v rp=>by
  obtain⟨a,dx,m,tu,tc,t1,t2,t3,t4,vc,rfl,pa,pd,hi,hm,m1,EE,m2,m3,m4,m5,pu,pc,it,ic,hs,hv⟩:=rp
  exact⟨a,dx,m,_,rfl,hi,m2,rfl,_,rfl⟩) he
theorem Ev.H7{K:Frag}{o:Expr}{pos:Pos}{md:Md}{w:WS}(hK: ∀h,C.B h->K.In h)(Y:WsK K C.wc)(h:Ev C sc ro k σ o md (.ws w))
 (he: ∀env,eval (.Attribute o "nt" pos) env=(do
   let ov<-eval o env
   standAt pos.atName
   let r<-holding [ov] (getAttr ov "nt" true)
   letTemporaryGo o ov r
   pure r):=by intro _;with_unfolding_all rfl):Ev C sc ro k σ (.Attribute o "nt" pos) md (.int w.nt):=
 qW hK Y (by decide) h (λhp Pr v rp=>by
  obtain⟨a,dx,m,tu,tc,t1,t2,t3,t4,vc,rfl,pa,pd,hi,hm,m1,EE,m2,m3,m4,m5,pu,pc,it,ic,hs,hv⟩:=rp
  exact⟨a,dx,m,_,rfl,hi,m3,rfl,_,rfl⟩) he
theorem Ev.wO{K:Frag}{o:Expr}{pos:Pos}{md:Md}{w:WS}(hK: ∀h,C.B h->K.In h)(Y:WsK K C.wc)(h:Ev C sc ro k σ o md (.ws w))
 (he: ∀env,eval (.Attribute o "is_simple" pos) env=(do
   let ov<-eval o env
   standAt pos.atName
   let r<-holding [ov] (getAttr ov "is_simple" true)
   letTemporaryGo o ov r
   pure r):=by intro _;with_unfolding_all rfl):Ev C sc ro k σ (.Attribute o "is_simple" pos) md (.bool w.simple):=
 qW hK Y (by decide) h (λhp Pr v rp=>by
  obtain⟨a,dx,m,tu,tc,t1,t2,t3,t4,vc,rfl,pa,pd,hi,hm,m1,EE,m2,m3,m4,m5,pu,pc,it,ic,hs,hv⟩:=rp
  exact⟨a,dx,m,_,rfl,hi,m4,rfl,rfl⟩) he
theorem Ev.vf{K:Frag}{o:Expr}{pos:Pos}{md:Md}{w:WS}(hK: ∀h,C.B h->K.In h)(Y:WsK K C.wc)(h:Ev C sc ro k σ o md (.ws w))
 (he: ∀env,eval (.Attribute o "norm" pos) env=(do
   let ov<-eval o env
   standAt pos.atName
   let r<-holding [ov] (getAttr ov "norm" true)
   letTemporaryGo o ov r
   pure r):=by intro _;with_unfolding_all rfl):Ev C sc ro k σ (.Attribute o "norm" pos) md (.tup [DT w.cnt,.int w.trail]):=
 qW hK Y (by decide) h (λhp Pr v rp=>by
  obtain⟨a,dx,m,tu,tc,t1,t2,t3,t4,vc,rfl,pa,pd,hi,hm,m1,EE,m2,m3,m4,m5,pu,pc,it,ic,hs,hv⟩:=rp
  have iO:tc≠tu:=λe=>by
   subst e
   obtain⟨o1,h1,_,n1,d1⟩:=it
   obtain⟨o2,h2,_,n2,d2⟩:=ic
   rw[h1] at h2;injection h2 with h2;subst h2
   rw[d1] at d2;injection d2 with d2;subst d2
   cases hv
  exact⟨a,dx,m,_,rfl,hi,m5,rfl,tu,_,rfl,pu,it,(by show 2<=sizeLine;decide),_,_,rfl,⟨tc,vc,rfl,⟨pc,iO⟩,ic,hs,aU.ofInts hv⟩,_,_,rfl,⟨_,rfl⟩,rfl⟩) he
end
section
variable{C:Cx}{sc:Scope}{ro:List Str}{k:Nat}{σ:Sg}{P:Sg->Fl->Prop}{A:Around}{env:Env}{h₀:Heap}{own:Ow}{s s' bD:Shared}
theorem Ev.H8{K:Frag}{o:Expr}{name:Str}{apos pos:Pos}{args:List Expr}{md AK:Md}{w:WS}{f:Addr}{ds:List D}{d:D}(hK: ∀h,C.B h->K.In h)(Y:WsK K C.wc)
 (hf:findIn K (.ref C.wc) name=some (some (.ref f))) (ht:typeIn K (.ref f)=some (.type "function")) (hk:aA C (.ref f)) (hn:name∉gj)
 (h:Ev C sc ro k σ o md (.ws w)) (ha:Ar C sc ro k σ args AK ds) (hc:Fn C k (.ref f) (.ws w::ds) d)
 (cJ:autoParam (∀env,attributeBase o name env (eval o env)=eval o env) au)
 (rP:autoParam (∀env,((backTo pos (starEach args env)).all (λx=>!x.1)&&(backToKw pos (keywordEach [] env)).all (λx=>x.1.isSome)
   &&decide (args.length+([]:List Keyword).length+(if([]:List Keyword).isEmpty then 0 else 1)<30))=true) au)
 (aF:autoParam ((apos.endLine==pos.line)=true) au):Ev C sc ro k σ (.Call (.Attribute o name apos) args [] pos) .fresh d:=by
 intro A env h₀ own s Q r S q
 rw[arm_eval_Call,cJ]
 refine ao (h A env h₀ own s _ r S λv ah az rp=>?_)
 obtain⟨a,dx,m,tu,tc,t1,t2,t3,t4,vc,rfl,pa,pd,hi,hm,rest⟩:=id rp
 have bE:=S.cX az
 obtain⟨od,ho,hl⟩:=rZ hi.2
 have I:InstAt ah.heap a (instObj C.wc dx) C.wc (some od):=⟨hi.1,rfl,rfl,ho⟩
 have NV:shadowIn (some od) name=some false:=by
  show(lookIn name od).map (·.isSome)=some false
  rw[hl,hm name hn];rfl
 refine ao (fM ?_)
 have Ls:methodCallForm (args.length+([]:List Keyword).length) (backTo pos (starEach args env)) (backToKw pos (keywordEach [] env))=true:=rP env
 have oq:methodCallPos true o env apos pos=pure pos:=by unfold methodCallPos;simp[aF]
 unfold methodCall
 rw[Ls]
 refine ao (dZ (method_fn (hK _ bE.B) I Y.ga Y.Lr hf ht NV ?_))
 refine ao (wpAny_of_eq oq ?_)
 refine callWith_of (P:=C.B) (by show((backTo pos (starEach args env)).any (·.1)||_)=false;rw[ha.2];rfl) hk ?_
 refine di (ha.2 env pos) (ha.1 A env h₀ own ah pos _ r bE λvs aE a₂ gK=>⟨(bE.cX a₂).B,?_⟩)
 refine hc A aE (.ref a::vs) Q r (bE.cX a₂).B ⟨_,vs,rfl,(Rep.ext rp λb o e=>a₂.get e).any,gK.mono (λ_ _=>trivial) λ_ _ _ e=>e⟩ λv aV cL rv=>q v aV ((az.trans a₂).trans cL) (rv.mono (λb hb=>(az.trans a₂).none hb) λ_ _ _ e=>e)
theorem Ev.clsName{K:Frag}{o:Expr}{name:Str}{pos:Pos}{v:Value}{md:Md}{d:D}(hK: ∀h,C.B h->K.In h)(hr:readsIn K C.wc (.type "type")=true)(hfi:findCls K (.ref C.wc) (.type "type") name=some (.val v))(hh:handedIn v=true)
 (h:aK C sc ro k σ o (.ref C.wc)) (hd: ∀h P,Rep C.wc h P v d)
 (he: ∀env,eval (.Attribute o name pos) env=(do
   let ov<-eval o env
   standAt pos.atName
   let r<-holding [ov] (getAttr ov name true)
   letTemporaryGo o ov r
   pure r):=by intro _;with_unfolding_all rfl):Ev C sc ro k σ (.Attribute o name pos) md d:=by
 intro A env h₀ own s Q r S q
 rw[he]
 refine ao (h A env h₀ own s _ r S λah az=>?_)
 refine ao (fM (ao (dZ (cls_value (hK _ (S.cX az).B) hr hfi hh ?_))))
 exact ao (wpAny_letTemporaryGo (aJ (q v _ (az.trans (cG.tok ah _)) (hd _ _))))
end
end Mine
end
section
open PySem PySem.W PyProof.Rows PySem.Challenge
namespace Mine
noncomputable def bW(n:Nat):Stmt:=pw_uc0053_01.main.body.getD n (.Pass default)
noncomputable def GH:Stmt->(Str×Arguments×List Stmt×Scope×Pos)×Expr×Expr×List Stmt
 | .FunctionDef n a b _ _ _ s _ _ p=>((n,a,b,s,p),default,default,[])
 | .ClassDef _ _ _ b _ _ _ _ _ _ _=>(("",default,b,default,default),default,default,[])
 | .Assign _ e _=>(("",default,[],default,default),e,default,[])
 | .For t i b _ _=>(("",default,b,default,default),t,i,[])
 | .If _ b o _=>(("",default,b,default,default),default,default,o)
 | .Return (some e) _=>(("",default,[],default,default),e,default,[])
 |_=>(("",default,[],default,default),default,default,[])
noncomputable def dI(s:Stmt):Str:=(GH s).1.1
noncomputable def pX(s:Stmt):Arguments:=(GH s).1.2.1
noncomputable def fBody(s:Stmt):List Stmt:=(GH s).1.2.2.1
noncomputable def fScope(s:Stmt):Scope:=(GH s).1.2.2.2.1
noncomputable def posOf(s:Stmt):Pos:=(GH s).1.2.2.2.2
noncomputable def Cs(s:Stmt):Expr:=(GH s).2.1
noncomputable def GI(s:Stmt):Expr:=(GH s).2.2.1
noncomputable def Cu(s:Stmt):List Stmt:=(GH s).2.2.2
noncomputable def H9:Expr->List Expr
 | .BinOp l _ r _=>[l,r]
 | .Call f as _ _=>f::as
 | .Attribute o _ _=>[o]
 | .IfExp a b c _=>[a,b,c]
 |_=>[]
noncomputable def i_(C:Cx)(x:Str)(v:Value):Prop:=∀h,C.B h-> ∃mg,h.Ns mainGlobals mg/\ mg x=some v
noncomputable def jT(C:Cx)(x:Str)(d:D):Prop:=∀h,C.B h-> ∃mg v,h.Ns mainGlobals mg/\ mg x=some v/\ ∀P,Rep C.wc h P v d
noncomputable def bT(C:Cx)(x:Str)(v:Value):Prop:=∀h,C.B h-> ∃mg mb,h.Ns mainGlobals mg/\ mg x=none/\ h.Ns builtinsNs mb/\ mb x=some v
noncomputable def bu(C:Cx)(n:Nat)(a:Addr):Prop:=i_ C (dI (bW n)) (.ref a)/\ FnAt C a (dI (bW n)) (pX (bW n)) (fBody (bW n)) (fScope (bW n))
section
variable{C:Cx}{sc:Scope}{ro:List Str}{k:Nat}{σ:Sg}{P:Sg->Fl->Prop}
theorem Ev.wQ{x:Str}{pos:Pos}{d:D}{md:Md}(hg:jT C x d)(hk:autoParam (sc.names.lookup x=some .globalImplicit) au)(hd:autoParam ((x==("__debug__" :Str))=false) au):Ev C sc ro k σ (.Name x pos) md d:=by
 intro A env h₀ own s Q r S q
 have hkind:env.scope.kind= .function:=by rw[S.scope];exact S.kind
 have hkx:env.kindOf x=some .globalImplicit:=by unfold Env.kindOf;rw[S.scope];exact hk
 obtain⟨mg,v,n,e,hr⟩:=hg _ S.B
 refine wpAny_Name ?_ hd
 rw[loadName_read hkind hkx]
 exact PySem.Calls.loadGlobal_global (by rw[S.glob];exact n) e (q v s (aO.refl _ _) (hr _))
end
theorem E6{C:Cx}{k:Nat}{a:Addr}{x:Int}(hf:bu C 68 a)(hg:jT C "ENDMARKER" (.int 0)):Fn C (k+1) (.ref a) [.int x] (.bool (x==0)):=by
 refine Fn.plain hf.2 ?_ rfl (by decide) ?_ ?_ ?_ ?_ rfl rfl rfl
 · intro pm cd doc vs hl
   obtain⟨v,rfl⟩:=tB hl
   rfl
 · decide
 · decide
 · decide
 · refine Ex.cons (P₁:=λ_ fl=>fl= .ret (.bool (x==0))) (cH.ret (md:=.any) (Ev.cmp (Ev.own rfl) (Ev.wQ hg) aH.eq) (.inl rfl) rfl) (λ_ h=>nomatch h) (λ_ _ h _=>.inl h)
section
variable{C:Cx}{sc:Scope}{ro:List Str}{k:Nat}{σ:Sg}{P:Sg->Fl->Prop}
theorem Ex.one{st:Stmt}{rest:List Stmt}{R:Sg->Prop}(h:cH C sc ro k σ st λaq fl=>(fl= .next/\ R aq) \/(fl≠.next/\ P aq fl))(hn: ∀aq,R aq->Ex C sc ro k aq rest P):Ex C sc ro k σ (st::rest) P:=
 Ex.cons h (λaq h=>h.elim (λh=>hn aq h.2) λh=>absurd rfl h.1) λaq f h hf=>h.elim (λh=>absurd h.1 hf) (·.2)
theorem Ex.set{x:Str}{px pos:Pos}{e:Expr}{rest:List Stmt}{f:Bool}{d:D}(h:aP C sc ro k σ e f d)(hx:Bound sc ro x)(hn:Ex C sc ro k (σ.set x f d) rest P)
 (hs: ∀env,env.scope=sc->swapsWith e (some (.Name x px)) pos.line env=pure false:=by intro env h;cases env;subst h;rfl):Ex C sc ro k σ (.Assign [.Name x px] e pos::rest) P:=
 Ex.one (R:=λaq=>aq=σ.set x f d) (cH.assign h hx (.inl ⟨rfl,rfl⟩) hs) λaq e=>e▸hn
theorem Ex.push{x:Str}{px apos iM pos:Pos}{e:Expr}{rest:List Stmt}{ds:List D}{d:D}{md:Md}(hx:σ.get x=some (true,.list ds))(he:Ev C sc ro k σ e md d)(hm:d.sc=true \/md= .clean \/md= .fresh)(hsz:ds.length<sizeLine)
 (hn:Ex C sc ro k (σ.set x true (.list (ds++[d]))) rest P)
 (cJ:autoParam (∀env,attributeBase (.Name x px) "append" env (eval (.Name x px) env)=eval (.Name x px) env) au)
 (rP:autoParam (∀env,((backTo iM (starEach [e] env)).all (λx=>!x.1)&&(backToKw iM (keywordEach [] env)).all (λx=>x.1.isSome)&&decide (([e]:List Expr).length+([]:List Keyword).length+(if([]:List Keyword).isEmpty then 0 else 1)<30))=true) au)
 (aF:autoParam ((apos.endLine==iM.line)=true) au) (rQ:autoParam (∀env,backTo iM (starEach [e] env)=[(false,eval e env)]) au) (vZ:autoParam ((x==("__debug__" :Str))=false) au):
 Ex C sc ro k σ (.Expr (.Call (.Attribute (.Name x px) "append" apos) [e] [] iM) pos::rest) P:=
 Ex.one (R:=λaq=>aq=σ.set x true (.list (ds++[d]))) (cH.append hx he hm hsz (.inl ⟨rfl,rfl⟩) cJ rP aF rQ vZ) λaq e=>e▸hn
theorem Ex.ret{e:Expr}{pos:Pos}{rest:List Stmt}{d:D}{md:Md}(h:Ev C sc ro k σ e md d)(hd:d.sc=true \/md= .fresh)(hp:P σ (.ret d)):Ex C sc ro k σ (.Return (some e) pos::rest) P:=
 Ex.one (R:=λ_=>False) (cH.ret h hd (.inr ⟨Fl.noConfusion,hp⟩)) λ_ h=>h.elim
theorem Ex.mU{x:Str}{px pos:Pos}{rest:List Stmt}{ds:List D}(hx:σ.get x=some (true,.list ds))(hs: ∀d∈ds,d.sc=true)(hp:P σ (.ret (.list ds)))(hd:autoParam ((x==("__debug__" :Str))=false) au):Ex C sc ro k σ (.Return (some (.Name x px)) pos::rest) P:=
 Ex.one (R:=λ_=>False) (cH.mU hx hs (.inr ⟨Fl.noConfusion,hp⟩) hd) λ_ h=>h.elim
theorem Ex.each{x:Str}{px pos:Pos}{iter:Expr}{body rest:List Stmt}{ds:List D}(Inv:List D->Sg->Prop)(he:aN C sc ro k σ iter ds)(hd: ∀d∈ds,d.sc=true)(hb:Bound sc ro x)(h0:Inv ds σ)
 (turn: ∀d r aq,Inv (d::r) aq->Ex C sc ro k (aq.set x false d) body λnP fl=>fl= .next/\ Inv r nP) (hn: ∀aq,Inv [] aq->Ex C sc ro k aq rest P)
 (hs: ∀env x,foldedSetIterable iter env x=pure x:=by intro _ _;rfl):Ex C sc ro k σ (.For (.Name x px) iter body [] pos::rest) P:=
 Ex.one (R:=Inv []) (cH.uQ he hd hb Inv h0 (λd r aq h=>(turn d r aq h).mono λkO f hf=>by obtain⟨rfl,hf⟩:=hf;exact hf) (λaq h=>.inl ⟨rfl,h⟩) hs) hn
theorem Ex.done(h:P σ .next):Ex C sc ro k σ [] P:=Ex.nil h
end
theorem bA(l:List Int): ∀d∈l.map D.int,d.sc=true:=λd hd=>by obtain⟨i,_,rfl⟩:=aQ.mp hd;rfl
noncomputable def lD(size:Int)(c:Int)(row:List Int):Int:=row.foldl (λc r=>(c+r).fdiv size*size+size) c
noncomputable def cW(row:List Int)(tail:Int):List Int:=[1,2,3,4].map λsize=>lD size 0 row+tail
theorem ua{C:Cx}{k:Nat}{a:Addr}{row:List Int}{tail:Int}(hf:bu C 73 a):Fn C (k+1) (.ref a) [DL row,.int tail] (DL (cW row tail)):=by
 refine Fn.plain hf.2 ?_ rfl (by decide) ?_ ?_ ?_ ?_ rfl rfl rfl
 · intro pm cd doc vs hl
   obtain⟨v,w,rfl⟩:=mS hl
   rfl
 · decide
 · decide
 · decide
 · refine Ex.set (aP.own (Ev.list Ar.nil (by decide))) ⟨.inl rfl,ai⟩ ?_
   refine Ex.each (λr σ=>∃done left,[1,2,3,4]=done++left/\ r=left.map D.int/\ σ.get "row" =some (false,DL row)/\ σ.get "tail" =some (false,.int tail)/\ σ.get "columns" =some (true,DL (done.map λsize=>lD size 0 row+tail)))
    (aN.tup (ds:=[1,2,3,4].map D.int) (Ev.tuple (Ar.cons Ev.aG (Ar.cons Ev.aG (Ar.cons Ev.aG (Ar.cons Ev.aG Ar.nil)))) (by decide)) (bA _)) (bA _) ⟨.inl rfl,ai⟩ ⟨[],[1,2,3,4],rfl,rfl,rfl,rfl,rfl⟩ ?_ ?_
   · rintro d r σ ⟨done,left,h1,h2,g1,g2,g3⟩
     cases left with
     |nil=>cases h2
     |cons size left=>
      rw[bN] at h2
      injection h2 with e1 e2
      subst e1;subst e2
      have GJ:size∈[(1:Int),2,3,4]:=by rw[h1];simp
      have hb:1<=size/\ size<=4:=by simp at GJ;exact Vq GJ
      refine Ex.set (aP.jg (md:=.any) Ev.aG rfl) ⟨.inl rfl,ai⟩ ?_
      refine Ex.each (λr σ=>∃dn lf,row=dn++lf/\ r=lf.map D.int/\ σ.get "row" =some (false,DL row)/\ σ.get "tail" =some (false,.int tail)/\ σ.get "columns" =some (true,DL (done.map λsize=>lD size 0 row+tail))/\
       σ.get "size" =some (false,.int size)/\ σ.get "column" =some (false,.int (lD size 0 dn)))
       (aN.list (ds:=row.map D.int) (Ev.name (by simp(decide:=true) only[Sg.get_set,aa,g1])) (bA _)) (bA _) ⟨.inl rfl,ai⟩ ⟨[],row,rfl,rfl,?_,?_,?_,?_,?_⟩ ?_ ?_
      · simp(decide:=true) only[Sg.get_set,aa,g1]
      · simp(decide:=true) only[Sg.get_set,aa,g2]
      · simp(decide:=true) only[Sg.get_set,aa,g3]
      · simp(decide:=true) only[Sg.get_set,aa,af]
      · simp(decide:=true) only[Sg.get_set,aa,af];rfl
      · rintro d r σ ⟨dn,lf,k1,k2,g1,g2,g3,g4,g5⟩
        cases lf with
        |nil=>cases k2
        |cons run lf=>
         rw[bN] at k2
         injection k2 with e1 e2
         subst e1;subst e2
         refine Ex.set (aP.jg (Ev.bin (Ev.bin (Ev.bin (Ev.bin (Ev.o (.int (lD size 0 dn)) (by simp(decide:=true) only[Sg.get_set,aa,g5])) (Ev.o (.int run) (by simp(decide:=true) only[Sg.get_set,af])) ak.add|>.up (.inl rfl))
          (Ev.o (.int size) (by simp(decide:=true) only[Sg.get_set,aa,g4])) (ak.fdiv (by simp;exact ZO hb.1) (PyProof.noPylong_small (T5 hb.1 hb.2)))|>.up (.inl rfl))
          (Ev.o (.int size) (by simp(decide:=true) only[Sg.get_set,aa,g4])) (ak.mul (IntMulOk.of_right (intBits_le_64 (Z4 hb.1) (PE hb.2))))|>.up (.inl rfl))
          (Ev.o (.int size) (by simp(decide:=true) only[Sg.get_set,aa,g4])) ak.add) rfl) ⟨.inl rfl,ai⟩ (Ex.done ⟨rfl,dn++[run],lf,?_,rfl,?_,?_,?_,?_,?_⟩)
         · rw[k1];simp
         · simp(decide:=true) only[Sg.get_set,aa,g1]
         · simp(decide:=true) only[Sg.get_set,aa,g2]
         · simp(decide:=true) only[Sg.get_set,aa,g3]
         · simp(decide:=true) only[Sg.get_set,aa,g4]
         · simp(decide:=true) only[Sg.get_set,af]
           unfold lD;rw[eE];rfl
      · rintro σ ⟨dn,lf,k1,k2,g1,g2,g3,g4,g5⟩
        cases lf with
        |cons _ _=>cases k2
        |nil=>
         rw[ez] at k1
         subst k1
         refine Ex.push g3 (Ev.bin (Ev.o _ g5) (Ev.o _ g2) ak.add) (.inl rfl) ?_ (Ex.done ⟨rfl,done++[size],left,?_,rfl,?_,?_,?_⟩)
         · have:done.length<=4:=by
            have:=congrArg List.length h1
            simp at this;exact Qx this
           simp only[aM];have:sizeLine=16777216:=rfl;exact RD this (by assumption)
         · rw[h1];simp
         · simp(decide:=true) only[Sg.get_set,aa,g1]
         · simp(decide:=true) only[Sg.get_set,aa,g2]
         · simp(decide:=true) only[Sg.get_set,af,DL,dN,bN,List.map_nil]
   · rintro σ ⟨done,left,h1,h2,g1,g2,g3⟩
     cases left with
     |cons _ _=>cases h2
     |nil=>
      rw[ez] at h1
      subst h1
      exact Ex.mU g3 (bA _) (.inl rfl)
noncomputable def fZ(f:Int->D):D->Option D
 | .int r=>some (f r)
 |_=>none
theorem dO(f:Int->D): ∀l:List Int,(l.map D.int).filterMap (fZ f)=l.map f
 |[]=>rfl
 |i::l=>by
  rw[bN,gG]
  show f i::_=_
  rw[dO f l];rfl
theorem Cw{P:Int->Prop}{n:Int}(h:0<=n/\ n<=3)(h0:P 0)(h1:P 1)(h2:P 2)(h3:P 3):P n:=by
 have:n=0 \/n=1 \/n=2 \/n=3:=Kv h.1 h.2
 rcases this with rfl|rfl|rfl|rfl<;>assumption
theorem wR{n:Int}(h:0<=n/\ n<=3):MulOk " " n:=
 Cw (P:=λn=>MulOk " " n) h (by unfold MulOk;decide) (by unfold MulOk;decide) (by unfold MulOk;decide) (by unfold MulOk;decide)
theorem gO{n:Int}(h:0<=n/\ n<=3):(Txt.mul " " n).length<=3:=
 Cw (P:=λn=>(Txt.mul " " n).length<=3) h (by decide) (by decide) (by decide) (by decide)
noncomputable def runOf(r:Int):Str:=Txt.mul " " r++ "\t"
noncomputable def eT(row:List Int)(tail:Int):Str:=Txt.join "" (row.map runOf)++Txt.mul " " tail
theorem Cy:(Str.ofString "\t").length=1:=by decide
theorem vg{r:Int}(h:0<=r/\ r<=3):(runOf r).length<=4:=by
 unfold runOf
 rw[gH]
 have:=gO h
 have:=Cy
 exact QU this (by assumption)
theorem Cz{C:Cx}{k:Nat}{a:Addr}{row:List Int}{tail:Int}(hf:bu C 72 a)(hr: ∀r∈row,0<=r/\ r<=3)(hl:row.length<=1000)(ht:0<=tail/\ tail<=3):
 Fn C (k+1) (.ref a) [DL row,.int tail] (.str (eT row tail)):=by
 have aF:sizeLine=16777216:=rfl
 have Ci:JoinOk "" (row.map runOf)=true:=by
  unfold JoinOk
  rw[Bool.not_eq_true',StrLaws.joinFits (B:=4) (λy hy=>by obtain⟨r,v_,rfl⟩:=aQ.mp hy;exact vg (hr r v_)) (by simp only[aM];show row.length*4+row.length*0<=_;exact T6 hl)]
 have X3:(Txt.join "" (row.map runOf)).length<=4*row.length:=by
  have h1:=StrLaws.join_length_le "" (row.map runOf)
  have h2:=StrLaws.sumLen_le (B:=4) (row.map runOf) (λy hy=>by obtain⟨r,v_,rfl⟩:=aQ.mp hy;exact vg (hr r v_))
  have e:Txt.join "" (row.map runOf)=Str.join "" (row.map runOf):=StrLaws.glued_eq_join _ _
  rw[e]
  simp only[aM] at h1 h2
  have:(Str.ofString "").length=0:=rfl
  rw[this] at h1
  exact Kw h2 h1
 refine Fn.plain hf.2 ?_ rfl (by decide) ?_ ?_ ?_ ?_ rfl rfl rfl
 · intro pm cd doc vs hl
   obtain⟨v,w,rfl⟩:=mS hl
   rfl
 · decide
 · decide
 · decide
 · refine Ex.ret (md:=.fresh) (d:=.str (eT row tail)) (Ev.bin (Ev.join (xs:=row.map runOf) (Ev.iB (by decide)) ?_ Ci (joinFit_length (by unfold JoinOk at Ci;simpa using Ci))|>.up (.inl rfl)) (Ev.bin (Ev.iB (by decide)) (Ev.o _ rfl) (ak.uT (wR ht) (by have:=gO ht;exact Q90 aF this))|>.up (.inl rfl)) (ak.gM (by have:=gO ht;exact V8 aF X3 hl this))) (.inl rfl) (.inl rfl)
   have e:(row.map runOf).map D.str=(row.map D.int).filterMap (fZ λr=>.str (runOf r)):=by rw[dO,cN];rfl
   rw[e]
   refine(Ev.comp (cC.name (aN.list (Ev.name rfl) (bA row)) (bA row) ?_ (λd hd=>?_) (by simp;exact OJ aF hl))).up (.inr rfl)
   · exact trivial
   obtain⟨r,v_,rfl⟩:=aQ.mp hd
   refine⟨.inl rfl,Ev.bin (Ev.bin (Ev.iB (by decide)) (Ev.o _ rfl) (ak.uT (wR (hr r v_)) (by have:=gO (hr r v_);exact Q90 aF this))|>.up (.inl rfl)) (Ev.iB (by decide)) (ak.gM ?_)⟩
   have:=gO (hr r v_)
   have:=Cy
   exact UH this aF (by assumption)
theorem H_{C:Cx}{k:Nat}{a:Addr}{x:Int}(hf:bu C 67 a)(hg:jT C "NT_OFFSET" (.int 256)):Fn C (k+1) (.ref a) [.int x] (.bool (decide (256<=x))):=by
 refine Fn.plain hf.2 ?_ rfl (by decide) ?_ ?_ ?_ ?_ rfl rfl rfl
 · intro pm cd doc vs hl
   obtain⟨v,rfl⟩:=tB hl
   rfl
 · decide
 · decide
 · decide
 · exact Ex.ret (md:=.any) (Ev.cmp (Ev.own rfl) (Ev.wQ hg) aH.ge) (.inl rfl) (.inl rfl)
noncomputable def Sub:Sg->Sg->Prop
 |[],_=>True
 |(x,f,d)::r,σ=>σ.get x=some (f,d)/\ Sub r σ
noncomputable def Le(τ σ:Sg):Prop:=∀x f d,τ.get x=some (f,d)->σ.get x=some (f,d)
theorem Sub.le{σ:Sg}: ∀{τ:Sg},Sub τ σ->Le τ σ:=by
 intro l0
 induction l0 with
 |nil=>
  intro _ _ _ _ e
  cases e
 |cons c0 r ih=>
  intro h x f d q
  obtain⟨y,g,e⟩:=c0
  unfold Sg.get at q
  by_cases z:x=y
  · rw[af z] at q;cases q;rw[z];exact h.1
  · rw[aa z] at q;exact ih h.2 _ _ _ q
theorem Le.trans{a b c:Sg}(x:Le a b)(y:Le b c):Le a c:=λz f d e=>y z f d (x z f d e)
theorem Le.set{τ σ:Sg}(h:Le τ σ)(x:Str)(f:Bool)(d:D):Le (τ.set x f d) (σ.set x f d):=λy g e q=>by
 rw[Sg.get_set] at q ⊢
 by_cases z:y=x
 · rw[af z] at q ⊢;exact q
 · rw[aa z] at q ⊢;exact h _ _ _ q
section
variable{C:Cx}{sc:Scope}{ro:List Str}{k:Nat}{σ τ:Sg}{P:Sg->Fl->Prop}{A:Around}{env:Env}{h₀:Heap}{own:Ow}{s s' bD:Shared}
theorem St.weak(S:St C sc ro env h₀ σ own s)(h:Le τ σ):St C sc ro env h₀ τ own s where
 scope:=S.scope
 kind:=S.kind
 glob:=S.glob
 blt:=S.blt
 base:=S.base
 keep:=S.keep
 fresh:=S.fresh
 alive:=S.alive
 ns:=S.ns
 eN:=S.eN
 sub:=S.sub
 cells:=S.cells
 gb:=S.gb
 free:=S.free
 pe:=S.pe
 vars:=λx f d e=>S.vars x f d (h _ _ _ e)
 inj:=λx y dx dy a e1 e2=>S.inj x y dx dy a (h _ _ _ e1) (h _ _ _ e2)
theorem kM.weak{t:Env->Sem Flow}(h:Le τ σ)(x:kM C sc ro k τ t P):kM C sc ro k σ t P:=
 λA env h₀ own s Q r S q=>x A env h₀ own s Q r (S.weak h) q
theorem Te.weak{e:Expr}{b:Bool}(h:Le τ σ)(x:Te C sc ro k τ e b):Te C sc ro k σ e b:=
 λA env h₀ own s Q r S q=>x A env h₀ own s Q r (S.weak h) q
noncomputable def Turn(τ:Sg)(R:Sg->Prop)(P:Sg->Fl->Prop)(σ:Sg):Fl->Prop
 | .next| .cont=>Sub τ σ
 | .brk=>R σ
 | .ret d=>P σ (.ret d)
noncomputable def After(R:Sg->Prop)(P:Sg->Fl->Prop)(σ:Sg)(fl:Fl):Prop:=(fl= .next/\ R σ) \/(fl≠.next/\ P σ fl)
theorem Ex.loop{α:Type}{x:Str}{px pos:Pos}{iter:Expr}{body rest:List Stmt}{items:List α}(vh:α->D)(τ:List α->Sg)(R:Sg->Prop)
 (he:aN C sc ro k σ iter (items.map vh)) (hd: ∀a∈items,(vh a).sc=true) (hb:Bound sc ro x) (h0:Sub (τ []) σ)
 (turn: ∀done a left,items=done++a::left->Ex C sc ro k ((τ done).set x false (vh a)) body (Turn (τ (done++[a])) R P))
 (kB: ∀aq,Le (τ items) aq->R aq) (hn: ∀aq,R aq->Ex C sc ro k aq rest P)
 (hs: ∀env x,foldedSetIterable iter env x=pure x:=by intro _ _;rfl):Ex C sc ro k σ (.For (.Name x px) iter body [] pos::rest) P:=by
 refine Ex.one (R:=R) (cH.uQ he (λd nW=>by obtain⟨a,ha,rfl⟩:=aQ.mp nW;exact hd a ha) hb (λr aq=>∃done left,items=done++left/\ r=left.map vh/\ Le (τ done) aq) ⟨[],items,rfl,rfl,h0.le⟩ ?_ ?_ hs) hn
 · rintro d r aq ⟨done,left,e1,e2,dP⟩
   cases left with
   |nil=>cases e2
   |cons a left=>
    rw[bN] at e2
    injection e2 with e3 e4
    subst e3;subst e4
    refine((turn done a left e1).weak (dP.set x false (vh a))).mono λkO f hf=>?_
    have go:Sub (τ (done++[a])) kO-> ∃done wU,items=done++wU/\ left.map vh=wU.map vh/\ Le (τ done) kO:=λh=>⟨done++[a],left,by rw[e1];simp,rfl,h.le⟩
    cases f with
    |next=>exact go hf
    |cont=>exact go hf
    |brk=>exact .inl ⟨rfl,hf⟩
    |ret d=>exact .inr ⟨Fl.noConfusion,hf⟩
 · rintro aq ⟨done,left,e1,e2,dP⟩
   cases left with
   |cons _ _=>cases e2
   |nil=>rw[ez] at e1;subst e1;exact .inl ⟨rfl,kB aq dP⟩
theorem Ex.CA{α:Type}{x y:Str}{px py tp pos:Pos}{kk:Nat}{iter:Expr}{body rest:List Stmt}{items:List α}(fk dJ:α->D)(τ:List α->Sg)(R:Sg->Prop)
 (he:aN C sc ro k σ iter (items.map λa=>.tup [fk a,dJ a])) (hd: ∀a∈items,(fk a).sc=true/\ (dJ a).sc=true) (hx:Bound sc ro x) (hy:Bound sc ro y) (h0:Sub (τ []) σ)
 (turn: ∀done a left,items=done++a::left->Ex C sc ro k (((τ done).set x false (fk a)).set y false (dJ a)) body (Turn (τ (done++[a])) R P))
 (kB: ∀aq,Le (τ items) aq->R aq) (hn: ∀aq,R aq->Ex C sc ro k aq rest P)
 (hs: ∀env x,foldedSetIterable iter env x=pure x:=by intro _ _;rfl):Ex C sc ro k σ (.For (.Tuple [.Name x px,.Name y py] kk tp) iter body [] pos::rest) P:=by
 have em:(items.map λa=>D.tup [fk a,dJ a])=(items.map λa=>(fk a,dJ a)).map λp=>.tup [p.1,p.2]:=by rw[cN];rfl
 rw[em] at he
 refine Ex.one (R:=R) (cH.zx he (λd nW=>by obtain⟨a,ha,rfl⟩:=aQ.mp nW;exact hd a ha) hx hy (λr aq=>∃done left,items=done++left/\ r=left.map (λa=>(fk a,dJ a))/\ Le (τ done) aq) ⟨[],items,rfl,rfl,h0.le⟩ ?_ ?_ hs) hn
 · rintro d₁ d₂ r aq ⟨done,left,e1,e2,dP⟩
   cases left with
   |nil=>cases e2
   |cons a left=>
    rw[bN] at e2
    injection e2 with e3 e4
    injection e3 with e3 e5
    subst e3;subst e4;subst e5
    refine((turn done a left e1).weak ((dP.set x false (fk a)).set y false (dJ a))).mono λkO f hf=>?_
    have go:Sub (τ (done++[a])) kO-> ∃done wU,items=done++wU/\ left.map (λa=>(fk a,dJ a))=wU.map (λa=>(fk a,dJ a))/\ Le (τ done) kO:=λh=>⟨done++[a],left,by rw[e1];simp,rfl,h.le⟩
    cases f with
    |next=>exact go hf
    |cont=>exact go hf
    |brk=>exact .inl ⟨rfl,hf⟩
    |ret d=>exact .inr ⟨Fl.noConfusion,hf⟩
 · rintro aq ⟨done,left,e1,e2,dP⟩
   cases left with
   |cons _ _=>cases e2
   |nil=>rw[ez] at e1;subst e1;exact .inl ⟨rfl,kB aq dP⟩
theorem Ex.pY{α:Type}{test:Expr}{body rest:List Stmt}{pos:Pos}(τ:α->Sg)(Inv:α->Prop)(size:α->Nat)(R:Sg->Prop)(wD:α)(hi:Inv wD)(h0:Sub (τ wD) σ)
 (turn: ∀a,Inv a-> ∃b,Te C sc ro k (τ a) test b/\ (b=true->Ex C sc ro k (τ a) body λaq fl=>(fl= .next/\ ∃a',size a'<size a/\ Inv a'/\ Sub (τ a') aq) \/(∃d,fl= .ret d/\ P aq fl))/\ (b=false-> ∀aq,Le (τ a) aq->R aq))
 (hn: ∀aq,R aq->Ex C sc ro k aq rest P):Ex C sc ro k σ (.While test body [] pos::rest) P:=by
 refine Ex.one (R:=R) (cH.while (λn aq=>∃a,n=size a/\ Inv a/\ Le (τ a) aq) (size wD) ⟨wD,rfl,hi,h0.le⟩ ?_) hn
 rintro n aq ⟨a,rfl,ia,hle⟩
 obtain⟨b,ht,h1,h2⟩:=turn a ia
 refine⟨b,ht.weak hle,λhb=>((h1 hb).weak hle).mono λkO f hf=>?_,λhb=>.inl ⟨rfl,h2 hb aq hle⟩⟩
 rcases hf with⟨rfl,a',jP,ia',hs⟩|⟨d,rfl,hp⟩
 · exact⟨size a',jP,a',rfl,ia',hs.le⟩
 · exact .inr ⟨Fl.noConfusion,hp⟩
theorem Ex.ite{t:Expr}{body orelse rest:List Stmt}{pos:Pos}{b:Bool}(R:Sg->Prop)(ht:Te C sc ro k σ t b)(h1:b=true->Ex C sc ro k σ body (After R P))(h2:b=false->Ex C sc ro k σ orelse (After R P))(hn: ∀aq,R aq->Ex C sc ro k aq rest P):Ex C sc ro k σ (.If t body orelse pos::rest) P:=
 Ex.one (R:=R) (cH.ite ht h1 h2) hn
theorem Ex.setItem{x:Str}{px ps pos:Pos}{ie e:Expr}{rest:List Stmt}{ds:List D}{d:D}{i:Int}{md:Md}(hx:σ.get x=some (true,.list ds))(hi:Ev C sc ro k σ ie .any (.int i))(he:Ev C sc ro k σ e md d)(hm:d.sc=true)
 (h0:0<=i) (hn:i<ds.length) (hr:Ex C sc ro k (σ.set x true (.list (ds.set i.toNat d))) rest P)
 (hs: ∀env,env.scope=sc->swapsWith e (some (.Subscript (.Name x px) ie ps)) pos.line env=pure false:=by intro env h;cases env;cases h;rfl) (vZ:autoParam ((x==("__debug__" :Str))=false) au):
 Ex C sc ro k σ (.Assign [.Subscript (.Name x px) ie ps] e pos::rest) P:=
 Ex.one (R:=λaq=>aq=σ.set x true (.list (ds.set i.toNat d))) (cH.setItem hx hi he hm h0 hn (.inl ⟨rfl,rfl⟩) hs vZ) λaq e=>e▸hr
theorem Ex.aug{x:Str}{px pos:Pos}{op:Operator}{e:Expr}{rest:List Stmt}{a b d:D}{f:Bool}(hx:σ.get x=some (f,a))(he:Ev C sc ro k σ e .any b)(ho:qo C k op a b d)(hd:d.sc=true)(hb:Bound sc ro x)(hr:Ex C sc ro k (σ.set x false d) rest P)
 :Ex C sc ro k σ (.AugAssign (.Name x px) op e pos::rest) P:=
 Ex.one (R:=λaq=>aq=σ.set x false d) (cH.aug hx he ho hd hb (.inl ⟨rfl,rfl⟩)) λaq e=>e▸hr
theorem Ex.gv{elt target iter:Expr}{ifs:List Expr}{cs:Scope}{pos:Pos}{items:List D}{g:D->Option D}{upd:Sg->D->Sg}{x:Str}{px oi:Pos}{rest:List Stmt}(f:Bool)(c:cC C sc ro k σ elt target iter ifs cs items g upd)(hx:Bound sc ro x)
 (hr:Ex C sc ro k (σ.set x f (.list (items.filterMap g))) rest P)
 (hs: ∀env,env.scope=sc->swapsWith (.ListComp elt [⟨target,iter,ifs,0⟩] cs pos) (some (.Name x px)) oi.line env=pure true:=by intro env h;cases env;cases h;rfl):
 Ex C sc ro k σ (.Assign [.Name x px] (.ListComp elt [⟨target,iter,ifs,0⟩] cs pos) oi::rest) P:=
 Ex.one (R:=λaq=>aq=σ.set x f (.list (items.filterMap g))) (cH.rW f c hx (.inl ⟨rfl,rfl⟩) hs) λaq e=>e▸hr
theorem Ex.pair{x y:Str}{px py tp pos:Pos}{kk:Nat}{e:Expr}{rest:List Stmt}{d₁ d₂:D}{g:Bool}(h:dj C sc ro k σ e d₁ g d₂)(hx:Bound sc ro x)(hy:Bound sc ro y)(hr:Ex C sc ro k ((σ.set x false d₁).set y g d₂) rest P)
 (hs: ∀env,env.scope=sc->swapsWithSole [.Tuple [.Name x px,.Name y py] kk tp] e pos.line env=pure false:=by intro env h;cases env;cases h;rfl)
 (hw: ∀env,env.scope=sc->swappedStores [.Tuple [.Name x px,.Name y py] kk tp] e env=pure none:=by intro env h;cases env;cases h;rfl):
 Ex C sc ro k σ (.Assign [.Tuple [.Name x px,.Name y py] kk tp] e pos::rest) P:=
 Ex.one (R:=λaq=>aq=(σ.set x false d₁).set y g d₂) (cH.pair h hx hy (.inl ⟨rfl,rfl⟩) hs hw) λaq e=>e▸hr
end
end Mine
end
section
open PySem PySem.W PyProof.Rows PySem.Challenge PySem.Spec
namespace Mine
noncomputable def zF(C:Cx)(d:Addr)(T:List (PyData×PyData)):Prop:=∀h,C.B h->StrTab C.prog C.w h d T
section
variable{C:Cx}{sc:Scope}{ro:List Str}{k:Nat}{σ:Sg}{P:Sg->Fl->Prop}{A:Around}{env:Env}{h₀:Heap}{own:Ow}{s s' bD:Shared}
theorem aH.inDict{x:Str}{d:Addr}{T:List (PyData×PyData)}(hT:zF C d T):aH C k .In (.str x) (.addr d) (lookup (.str x) T).isSome:=λA s va vb Q rm B ra rb q=>by
 obtain⟨⟨t,rfl⟩,_⟩:=ra;obtain rfl:=rb
 exact in_strTab (hT _ B) (q _ _ (cG.tok _ _) rfl)
theorem aL.dict{x:Str}{d:Addr}{T:List (PyData×PyData)}{i:Int}(hT:zF C d T)(hl:lookup (.str x) T=some (.int i)):aL C k (.addr d) (.str x) (.int i):=by
 intro A s va vi Q Pr r B ra ri q
 obtain rfl:=ra
 obtain⟨⟨t,rfl⟩,_⟩:=ri
 obtain⟨lo,kvs,hd,hf⟩:=hT _ B
 obtain⟨v,hv,Lu⟩:=hf.of_lookup PyProof.V.same_str hl
 have X4: ∃u,v= .int i u:=by have z:=Lu s.heap;cases z;exact⟨_,rfl⟩
 obtain⟨u,rfl⟩:=X4
 exact⟨"dict",_,hd.typeIs,slot_dict_getitem.lookup,wpAny_getItem_of (strKind_is C.prog C.w x t) hd.mapOf hv (q _ _ (cG.tok _ _) ⟨_,rfl⟩)⟩
structure WsMk(K:Frag)(wc f:Addr):Prop extends WsK K wc where
 makes:makesIn K wc=true
 set:findIn K (.ref wc) "__setattr__" =some (some (.builtin "object.__setattr__"))
 over:plainOver K wc=true
 tak: ∀x∈gj,takerIn K wc x=some none
 init:findIn K (.ref wc) "__init__" =some (some (.ref f))
 fn:typeIn K (.ref f)=some (.type "function")
theorem qw(name:Str)(NV:Int)(key v:Value): ∀es:List DictEntry,(putL name NV key v es).length<=es.length+1
 |[]=>aR _
 |e::r=>by
  unfold putL
  split
  · simp
  · have:=qw name NV key v r
    simp only[eF];exact OL this
theorem yu{K:Frag}{f wc a dx:Addr}{prog:Program}{w:World}{E:Value->Shared->Prop}{es:List DictEntry}{n:Nat}{name:Str}{v:Value}{Q:Unit->Shared->Prop}(Y:WsMk K wc f)(X:K.In s.heap)(hx:name∈gj)
 (hi:s.heap.get? a=some (instObj wc dx)) (hd:s.heap.get? dx=some (dictOf es n)) (hk:es.any (·.refKey)=false) (hz:es.length<=100)
 (q: ∀h' t hs tk n',h'.get? dx=some (dictOf (putL name hs (.str name tk) v es) n')->(∀b,b≠dx->h'.get? b=s.heap.get? b)->Q () {s with heap:=h',toks:=t}):
 wpAny (model prog w) A (setAttr (.ref a) name v) Q E s:=by
 have I:InstAt s.heap a (instObj wc dx) wc (some (dictOf es n)):=⟨hi,rfl,rfl,hd⟩
 refine set_plain X I Y.set ?_
 refine osa_open (s:={s with toks:=s.toks+1}) X I Y.over (Y.tak name hx) λb=>?_
 obtain⟨cd,hc,nW⟩:=any_some Y.dict
 refine ao (aJ (ao (ao (wpAny_loadPart (s:={s with toks:=s.toks+1}) hi (ao ((looks_clsIn (M:=model prog w) X hc) _ _ _ _ (λ_ _ e=>e) ?_))))))
 rw[nW]
 refine aJ (a:=some dx) (ao (aJ (ao ?_)))
 unfold nsSet
 refine ao (ao (wpAny_askSetting (aJ (ao (wpAny_mkText (ao (wpAny_loadPart hd ?_)))))))
 have c:(!es.toArray.any (·.key.isStr name)&&es.toArray.any (·.refKey))=false:=by rw[List.any_toArray,List.any_toArray,hk,Bool.and_false]
 dsimp only
 rw[aRefKeyMayBeTheName_at,c]
 have hsz:=qw name (PyData.keyHash w.params name) (.str name (s.toks+1)) v es
 have aF:sizeLine=16777216:=rfl
 have D':(s.heap.update dx (Obj.putName name (PyData.keyHash w.params name) (.str name (s.toks+1)) v)).get? dx=some (dictOf (putL name (PyData.keyHash w.params name) (.str name (s.toks+1)) v es) (putN name es n)):=by
  rw[<-putName_dict]
  exact Heap.get?_update_self _ hd (by rw[putName_dict];rfl)
 refine wpAny_updatePart hd ?_
 refine ao (wpAny_lookBehind D' (pastItsLine_dict (by rw[List.size_toArray];exact Vx aF hsz hz)) ?_)
 exact aJ (q _ _ _ _ _ D' λb hb=>Heap.get?_update_ne _ _ _ _ hb)
end
end Mine
end
section
open PySem PySem.W PyProof.Rows PySem.Challenge
namespace Mine
noncomputable def zG(C:Cx)(a:Addr)(name qual:Str)(params:Arguments)(body:List Stmt)(scope:Scope):Prop:=
 ∀h,C.B h-> ∃o doc pm an cd ct,h.get? a=some o/\ o.data= .func (fnOf name qual params body scope .none .none doc pm an cd ct)/\ h.CodeRec cd qual
theorem aA.fnQ{C:Cx}{a:Addr}{name qual:Str}{params:Arguments}{body:List Stmt}{scope:Scope}(h:zG C a name qual params body scope):aA C (.ref a):=λhp B=>by
 refine bk λG hG=>?_
 obtain⟨o,doc,pm,an,cd,ct,ho,hd,_⟩:=h hp B
 refine hG ?_;clear hG G
 refine⟨.frame,.inl rfl,(Looks.ld (part:=none) ho).andThen ?_⟩
 rw[hd]
 exact .now
theorem enterQ{C:Cx}{k:Nat}{A:Around}{s:Shared}{a:Addr}{name qual:Str}{params:Arguments}{body:List Stmt}{scope:Scope}{vs:List Value}{ds:List D}{R:Result->Shared->Prop}(hf:zG C a name qual params body scope)(r:bH A (k+1))(B:C.B s.heap)
 (gK:aU C.wc s.heap (λ_=>True) vs ds)
 (hb: ∀doc pm an cd ct,bindArgs (fnOf name qual params body scope .none .none doc pm an cd ct) ⟨vs,[]⟩=pure ((params.args.map (·.arg)).zip vs))
 (hl:(params.args.map (·.arg)).length=ds.length) (qp:(params.args.map (·.arg)).Nodup)
 (iL: ∀x∈params.args.map (·.arg),scope.names.lookup x=some .local) (hcell: ∀x∈scope.names,x.2≠.cell) (hfree: ∀x∈scope.names,x.2≠.free)
 (h: ∀A' env bX t,bH A' k->env.locals=s.heap.objs.size->(∀b o,s.heap.get? b=some o->bX.get? b=some o)->St C scope [] env s.heap (gZ (params.args.map (·.arg)) ds) ⟨[s.heap.objs.size],[s.heap.objs.size]⟩ {s with heap:=bX,toks:=t}->
   wpAny (model C.prog C.w) A' (execs body env) (λf s'=>R (.ok (.ret (match f with| .ret v=>v|_=>.none))) s') (λ_ _=>False) {s with heap:=bX,toks:=t})
 (hk:autoParam (scope.kind= .function) au) (rO:autoParam (scope.isCoroutine=false) au) (jN:autoParam (scope.isGenerator=false) au):
 codeAny (model C.prog C.w) A (.call (.ref a) ⟨vs,[]⟩) R s:=by
 refine bk λG hG=>?_
 obtain⟨o,doc,pm,an,cd,ct,ho,hd,tU⟩:=hf _ B
 refine hG ?_;clear hG G
 refine codeAny_call_def (fd:=fnOf name qual params body scope .none .none doc pm an cd ct) (body:=body) (binds:=(params.args.map (·.arg)).zip vs) r.lt ho hd (C.nolimit _ B) tU rfl (BindsTo.of_eq (hb _ _ _ _ _)) hcell (λx hx=>iL _ (kq hx).1) (λbX mT keep=>?_) rO jN hk
 exact aT (h _ _ bX _ (r.deeper _) rfl keep (St.init (Ps:=[]) rfl hk rfl rfl rfl B (λ_ _ e=>e) (λ_ h=>nomatch h) (λ_ h=>nomatch h) keep mT iL hcell hfree qp (λ_ _ h=>nomatch h) gK)) (λ_ _ x=>x) λ_ _ x=>x.elim
theorem Fn.plainQ{C:Cx}{k:Nat}{a:Addr}{name qual:Str}{params:Arguments}{body:List Stmt}{scope:Scope}{ds:List D}{d:D}(hf:zG C a name qual params body scope)
 (hb: ∀doc pm an cd ct (vs:List Value),vs.length=ds.length->bindArgs (fnOf name qual params body scope .none .none doc pm an cd ct) ⟨vs,[]⟩=pure ((params.args.map (·.arg)).zip vs))
 (hl:(params.args.map (·.arg)).length=ds.length) (qp:(params.args.map (·.arg)).Nodup)
 (iL: ∀x∈params.args.map (·.arg),scope.names.lookup x=some .local) (hcell: ∀x∈scope.names,x.2≠.cell) (hfree: ∀x∈scope.names,x.2≠.free)
 (d_:Ex C scope [] k (gZ (params.args.map (·.arg)) ds) body λ_ fl=>fl= .ret d \/(fl= .next/\ d= .none))
 (hk:autoParam (scope.kind= .function) au) (rO:autoParam (scope.isCoroutine=false) au) (jN:autoParam (scope.isGenerator=false) au):Fn C (k+1) (.ref a) ds d:=by
 intro A s vs Q r B gK q
 refine wpAny_call (enterQ hf r B gK (λdoc pm an cd ct=>hb _ _ _ _ _ vs gK.length) hl qp iL hcell hfree (λA' env bX t r' hL keep S=>?_) hk rO jN)
 refine d_ A' env _ _ _ _ r' S λf fl s' aq own' av o1 o2 S' fi p=>?_
 have cX:cG s s':=⟨λb o _ e=>S'.keep b o e,av.os,av.gens⟩
 rcases p with rfl|⟨rfl,rfl⟩
 · obtain⟨v,rfl,rp⟩:=fi
   exact q v s' cX rp
 · subst fi
   exact q .none s' cX rfl
noncomputable def Cx.plus(C:Cx)(N:Heap->Prop)(hN: ∀h h',N h->(∀b o,h.get? b=some o->h'.get? b=some o)->N h'):Cx:=
 {C with B:=λh=>C.B h/\ N h,keeps:=λh h' x k=>⟨C.keeps h h' x.1 k,hN h h' x.2 k⟩,nolimit:=λh x=>C.nolimit h x.1}
noncomputable def Flat1(d:D):Prop:=d.sc=true \/ ∃ds,d= .list ds/\ ∀e∈ds,e.sc=true
section
variable{C:Cx}{sc:Scope}{ro:List Str}{k:Nat}{σ:Sg}{P:Sg->Fl->Prop}{A:Around}{env:Env}{h₀:Heap}{own:Ow}{s s' bD:Shared}
theorem St.rebase{C':Cx}{r_ h':Heap}{t:Nat}{dx:Addr}(S:St C sc [] env h₀ σ own s)(hw:C'.wc=C.wc)(qp:dx∉own.av)(hs: ∀b,b≠dx->h'.get? b=s.heap.get? b)(hb:C'.B r_)(hk: ∀b,b≠dx->r_.get? b=h₀.get? b)
 (X5:r_.get? dx=h'.get? dx) (Lu: ∀x f d,σ.get x=some (f,d)->Flat1 d/\ (f=false->d.sc=true)):St C' sc [] env r_ σ own {s with heap:=h',toks:=t}:=by
 have hL:env.locals≠dx:=λe=>qp (e▸S.sub _ S.eN)
 have EX: ∀x,env.kindOf x=some .free->False:=λx hx=>by have:=S.free x hx;cases this
 have zq: ∀x v,cg env s.heap x v->cg env h' x v:=λx v h=>by
  rcases h with⟨kx,m,n,e⟩|⟨kx,c,e,n⟩
  · exact .inl ⟨kx,m,cT n λo q=>(hs _ hL).trans q,e⟩
  · rcases kx with kx|⟨kx,_⟩
    · refine .inr ⟨.inl kx,c,e,br n λo q=>(hs _ λz=>?_).trans q⟩
      obtain⟨c',_,e',_,m⟩:=S.cells x kx (by simp)
      rw[e] at e';injection e' with e';subst e'
      exact qp (z▸S.sub _ m)
    · exact(EX x kx).elim
 exact{
  scope:=S.scope,kind:=S.kind,glob:=S.glob,blt:=S.blt,base:=hb
  keep:=λb o e=>by
   by_cases q:b=dx
   · rw[q] at e ⊢;rw[X5] at e;exact e
   · rw[hk b q] at e;exact(hs b q).trans (S.keep b o e)
  fresh:=λb hb=>by
   rw[hk b λq=>qp (q▸hb)];exact S.fresh b hb
  alive:=λb hb=>by
   show(h'.get? b).isSome=true
   rw[hs b λq=>qp (q▸hb)];exact S.alive b hb
  ns:=by obtain⟨m,n⟩:=S.ns;exact⟨m,cT n λo e=>(hs _ hL).trans e⟩
  eN:=S.eN,sub:=S.sub
  cells:=λy hy hr=>by obtain⟨c,iK,e,i,m⟩:=S.cells y hy hr;exact⟨c,iK,e,br i λo q=>(hs _ λz=>qp (z▸S.sub _ m)).trans q,m⟩
  gb:=S.gb,free:=S.free,pe:=λx c hx=>by cases hx
  vars:=λy f d e=>by
   obtain⟨v,va,sl⟩:=S.vars y f d e
   obtain⟨f1,f2⟩:=Lu y f d e
   rw[hw]
   refine⟨v,zq y v va,?_⟩
   cases f with
   |false=>exact Rep.dH sl (f2 rfl)
   |true=>
    refine bk λG hG=>?_
    obtain⟨a,vs,ds,e1,e2,tR,e3,e4,e5,e6⟩:=sl
    refine hG ?_;clear hG G
    rcases f1 with f1|⟨ds',f1,f3⟩
    · rw[e3] at f1;cases f1
    · rw[e3] at f1;injection f1 with f1;subst f1
      exact⟨a,vs,ds,e1,e2,tR,e3,e4.at (λo q=>(hs _ λz=>qp (z▸tR)).trans q),e5,aU.dH e6 f3⟩
  inj:=λy z dy dz a e1 e2 v1 v2=>by
   obtain⟨v,va,_⟩:=S.vars y _ _ e1
   obtain⟨v',lV,_⟩:=S.vars z _ _ e2
   have q1:=(zq y v va).det v1
   have q2:=(zq z v' lV).det v2
   subst q1;subst q2
   exact S.inj y z dy dz a e1 e2 va lV}
end
noncomputable def eO(n:Nat):Stmt:=(fBody (bW 14)).getD n (.Pass default)
noncomputable def vj(C:Cx)(n:Nat)(a:Addr):Prop:=zG C a (dI (eO n)) ("Whitespace." ++dI (eO n)) (pX (eO n)) (fBody (eO n)) (fScope (eO n))
structure BX where
 c:List Int
 b:Int
 n:Int
 nt:Int
noncomputable def lE(c:List Int)(b:Int):List Int:=
 (if(c.length:Int)<=b then c++List.replicate (b-c.length+1).toNat 0 else c).set b.toNat ((if(c.length:Int)<=b then c++List.replicate (b-c.length+1).toNat 0 else c).getD b.toNat 0+1)
noncomputable def kG(st:BX)(ch:Nat):BX:=if ch=32 then⟨st.c,st.b+1,st.n+1,st.nt⟩ else⟨lE st.c st.b,0,st.n+1,st.nt+1⟩
noncomputable def bx(l:List Nat):BX:=l.foldl kG ⟨[],0,0,0⟩
noncomputable def jU(ch:Nat):Bool:=ch==32||ch==9
noncomputable def fG(l:List Nat):BX:=bx (l.takeWhile jU)
noncomputable def wV(x:Str):WS:=⟨x,(fG x.cps.toList).n,(fG x.cps.toList).nt,(fG x.cps.toList).c,(fG x.cps.toList).b,decide ((fG x.cps.toList).c.length<=1)⟩
theorem AX(c:List Int)(b:Int):((lE c b).length:Int)=max (c.length:Int) (b+1) \/(b<0/\ (lE c b).length=c.length):=by
 unfold lE
 rw[List.length_set]
 by_cases h:(c.length:Int)<=b
 · rw[af h]
   rw[cF,rE]
   exact Xr
 · rw[aa h];exact WZ h
theorem nq(l:List Nat)(ch:Nat):bx (l++[ch])=kG (bx l) ch:=by unfold bx;rw[eE];rfl
theorem vm(l:List Nat):0<=(bx l).b/\ (bx l).b<=l.length/\ ((bx l).c.length:Int)<=l.length:=by
 generalize hn:l.length=n
 induction n generalizing l with
 |zero=>
  have:l=[]:=gh hn
  subst this
  exact⟨cO _,cO _,cO _⟩
 |succ n ih=>
  obtain⟨l',ch,rfl⟩: ∃l' ch,l=l'++[ch]:=⟨l.dropLast,l.getLast (by intro e;rw[e] at hn;cases hn),(iV _).symm⟩
  have uc:l'.length=n:=by simpa using hn
  obtain⟨h1,h2,h3⟩:=ih l' uc
  rw[nq]
  unfold kG
  split
  · refine⟨?_,?_,?_⟩<;>dsimp only<;>lia
  · refine⟨cO _,?_,?_⟩
    · dsimp only;exact PF
    · dsimp only
      rcases AX (bx l').c (bx l').b with e|e<;>omega
theorem takeWhile_all{l:List Nat}(h: ∀x∈l,jU x=true):l.takeWhile jU=l:=by
 induction l with
 |nil=>rfl
 |cons x l ih=>rw[List.takeWhile_cons,h x (.head _),af rfl,ih λy hy=>h y (.tail _ hy)]
theorem takeWhile_stop{l r:List Nat}{ch:Nat}(h: ∀x∈l,jU x=true)(hc:jU ch=false):(l++ch::r).takeWhile jU=l:=by
 induction l with
 |nil=>rw[List.nil_append,List.takeWhile_cons,hc];rfl
 |cons x l ih=>rw[List.cons_append,List.takeWhile_cons,h x (.head _),af rfl,ih λy hy=>h y (.tail _ hy)]
section
variable{C:Cx}{sc:Scope}{ro:List Str}{k:Nat}{σ:Sg}{P:Sg->Fl->Prop}{A:Around}{env:Env}{h₀:Heap}{own:Ow}{s s' bD:Shared}
theorem cH.jV{α:Type}{x:Str}{px pos:Pos}{iter:Expr}{body:List Stmt}{items:List α}(vh:α->D)(τ:List α->Sg)(Ip:List α->Prop)(R:Sg->Prop)
 (he:aN C sc ro k σ iter (items.map vh)) (hd: ∀a∈items,(vh a).sc=true) (hb:Bound sc ro x) (h0:Sub (τ []) σ) (hi:Ip [])
 (turn: ∀done a left,items=done++a::left->Ip done->Ex C sc ro k ((τ done).set x false (vh a)) body λaq fl=>(fl= .next/\ Ip (done++[a])/\ Sub (τ (done++[a])) aq) \/(fl= .brk/\ R aq) \/(∃d,fl= .ret d/\ P aq (.ret d)))
 (kB:Ip items-> ∀aq,Le (τ items) aq->R aq)
 (hp: ∀aq,R aq->P aq .next)
 (hs: ∀env x,foldedSetIterable iter env x=pure x:=by intro _ _;rfl):cH C sc ro k σ (.For (.Name x px) iter body [] pos) P:=by
 refine cH.uQ he (λd nW=>by obtain⟨a,ha,rfl⟩:=aQ.mp nW;exact hd a ha) hb (λr aq=>∃done left,items=done++left/\ r=left.map vh/\ Le (τ done) aq/\ Ip done) ⟨[],items,rfl,rfl,h0.le,hi⟩ ?_ ?_ hs
 · rintro d r aq ⟨done,left,e1,e2,dP,jW⟩
   cases left with
   |nil=>cases e2
   |cons a left=>
    rw[bN] at e2
    injection e2 with e3 e4
    subst e3;subst e4
    refine((turn done a left e1 jW).weak (dP.set x false (vh a))).mono λkO f hf=>?_
    rcases hf with⟨rfl,h1,h2⟩|⟨rfl,h⟩|⟨d,rfl,h⟩
    · exact⟨done++[a],left,by rw[e1];simp,rfl,h2.le,h1⟩
    · exact hp _ h
    · exact h
 · rintro aq ⟨done,left,e1,e2,dP,jW⟩
   cases left with
   |cons _ _=>cases e2
   |nil=>rw[ez] at e1;subst e1;exact hp _ (kB jW aq dP)
theorem CB{h:Heap}{dx:Addr}{es:List DictEntry}{n:Nat}(hd:h.get? dx=some (dictOf es n))(hk: ∀e∈es,∃x t,e.key= .str x t):h.Ns dx λx=>(es.find? (·.key.isStr x)).map (·.val):=
 ⟨_,_,_,hd,rfl,λe he=>hk e (by simpa using he),λx=>by
   delta nsFind findBy
   rw[<-Array.find?_toList]⟩
theorem Ev.E7{K:Frag}{o:Expr}{x:Str}{pos:Pos}{md AK:Md}{d:D}{wc a dx:Addr}{m:Str->Option Value}{v:Value}(Y:WsK K wc)(hx:x∈gj)(hB: ∀h,C.B h->K.In h/\ pO wc h a dx m)(hv:m x=some v)(hh:handedIn v=true)(hd: ∀hp Pr,Rep C.wc hp Pr v d)
 (h:Ev C sc ro k σ o md (.addr a))
 (he: ∀env,eval (.Attribute o x pos) env=(do
   let ov<-eval o env
   standAt pos.atName
   let r<-holding [ov] (getAttr ov x true)
   letTemporaryGo o ov r
   pure r):=by intro _;with_unfolding_all rfl):Ev C sc ro k σ (.Attribute o x pos) AK d:=by
 intro A env h₀ own s Q r S q
 rw[he]
 refine ao (h A env h₀ own s _ r S λw ah az rp=>?_)
 obtain rfl:=rp
 obtain⟨X,hi⟩:=hB _ (S.cX az).B
 refine ao (fM (ao (dZ (wN Y X hi hx hv hh ?_))))
 exact ao (wpAny_letTemporaryGo (aJ (q v _ (az.trans (cG.tok ah _)) (hd _ _))))
theorem cH.after{st:Stmt}{rest:List Stmt}{R:Sg->Prop}{Q:Flow->Shared->Prop}(h:cH C sc ro k σ st λaq fl=>fl= .next/\ R aq)(r:bH A k)(S:St C sc ro env h₀ σ own s)
 (q: ∀s' aq own',aO own.mu s s'->St C sc ro env h₀ aq own' s'->R aq->wpAny (model C.prog C.w) A (execs rest env) Q (λ_ _=>False) s'):
 wpAny (model C.prog C.w) A (execs (st::rest) env) Q (λ_ _=>False) s:=by
 refine eX (h A env h₀ own s _ r S λf fl s' aq own' a o1 o2 S' fi p=>?_)
 obtain⟨rfl,hR⟩:=p
 subst fi
 exact q s' aq own' a S' hR
theorem tH{K:Frag}{f wc a dx:Addr}{x y:Str}{px pa pos:Pos}{e:Expr}{rest:List Stmt}{es:List DictEntry}{n:Nat}{d:D}{md:Md}{g:Bool}{Q:Flow->Shared->Prop}(Y:WsMk K wc f)(hx:x∈gj)
 (he:Ev C sc ro k σ e md d) (hy:σ.get y=some (g,.addr a)) (r:bH A k) (S:St C sc ro env h₀ σ own s)
 (hB: ∀h,C.B h->K.In h/\ h.get? a=some (instObj wc dx)/\ h.get? dx=some (dictOf es n)) (hk:es.any (·.refKey)=false) (hz:es.length<=100)
 (q: ∀ah v h' t hs tk n',cG s ah->St C sc ro env h₀ σ own ah->Rep C.wc ah.heap (md.ok own s.heap) v d->h'.get? dx=some (dictOf (putL x hs (.str x tk) v es) n')->(∀b,b≠dx->h'.get? b=ah.heap.get? b)->
   wpAny (model C.prog C.w) A (execs rest env) Q (λ_ _=>False) {ah with heap:=h',toks:=t})
 (X6: ∀env,env.scope=sc->swapsWith e (some (.Attribute (.Name y px) x pa)) pos.line env=pure false:=by intro env h;cases env;cases h;rfl) (vZ:autoParam ((y==("__debug__" :Str))=false) au):
 wpAny (model C.prog C.w) A (execs (.Assign [.Attribute (.Name y px) x pa] e pos::rest) env) Q (λ_ _=>False) s:=by
 refine eX (plainObj_wpAny_Assign_Attribute (he A env h₀ own s _ r S λv ah az rp=>?_) (X6 env S.scope))
 have bE:=S.cX az
 refine(Ev.own (C:=C) (k:=k) hy vZ) A env h₀ own ah _ r bE λv' aE a₂ vX=>?_
 obtain rfl:=vX
 have bK:=bE.cX a₂
 obtain⟨X,h1,h2⟩:=hB _ bK.B
 refine yu Y X hx h1 h2 hk hz λh' t hs tk n' e1 e2=>?_
 exact q aE v h' t hs tk n' (az.trans a₂) bK (Rep.ext rp λb o e=>a₂.get e) e1 e2
end
theorem i_.plus{C:Cx}{N:Heap->Prop}{hN: ∀h h',N h->(∀b o,h.get? b=some o->h'.get? b=some o)->N h'}{x:Str}{v:Value}(h:i_ C x v):i_ (C.plus N hN) x v:=λhp B=>h hp B.1
theorem bT.plus{C:Cx}{N:Heap->Prop}{hN: ∀h h',N h->(∀b o,h.get? b=some o->h'.get? b=some o)->N h'}{x:Str}{v:Value}(h:bT C x v):bT (C.plus N hN) x v:=λhp B=>h hp B.1
noncomputable def Nx(wc a dx:Addr)(od:Obj)(h:Heap):Prop:=h.get? a=some (instObj wc dx)/\ h.get? dx=some od
theorem Nx.keeps{wc a dx:Addr}{od:Obj}: ∀h h':Heap,Nx wc a dx od h->(∀b o,h.get? b=some o->h'.get? b=some o)->Nx wc a dx od h':=λh h' x k=>⟨k _ _ x.1,k _ _ x.2⟩
noncomputable abbrev Cx.mE(C:Cx)(a dx:Addr)(od:Obj):Cx:=C.plus (Nx C.wc a dx od) Nx.keeps
noncomputable def yv(σ:Sg):Prop:=∀x f d,σ.get x=some (f,d)->Flat1 d/\ (f=false->d.sc=true)
noncomputable def zH:Sg->Prop
 |[]=>True
 |(_,f,d)::r=>(Flat1 d/\ (f=false->d.sc=true))/\ zH r
theorem yv.of: ∀{σ:Sg},zH σ->yv σ:=by
 intro l0
 induction l0 with
 |nil=>
  intro _ _ _ _ e
  cases e
 |cons c0 r ih=>
  intro h x f d q
  obtain⟨y,g,e⟩:=c0
  unfold Sg.get at q
  by_cases z:x=y
  · rw[af z] at q;cases q;exact h.1
  · rw[aa z] at q;exact ih h.2 x f d q
section
variable{C:Cx}{sc:Scope}{k:Nat}{σ:Sg}{A:Around}{env:Env}{h₀:Heap}{own:Ow}{s:Shared}
theorem lF{K:Frag}{f a dx:Addr}{x y:Str}{px pa pos:Pos}{e:Expr}{rest:List Stmt}{es:List DictEntry}{n:Nat}{d:D}{md:Md}{g:Bool}{Q:Flow->Shared->Prop}{hb:Heap}(Y:WsMk K C.wc f)(hK: ∀h,C.B h->K.In h)(hx:x∈gj)
 (he:Ev (C.mE a dx (dictOf es n)) sc [] k σ e md d) (hy:σ.get y=some (g,.addr a)) (r:bH A k) (S:St (C.mE a dx (dictOf es n)) sc [] env h₀ σ own s)
 (hk:es.any (·.refKey)=false) (hz:es.length<=100) (Lu:zH σ) (iO:a≠dx) (cJ:C.B hb) (dP: ∀b o,hb.get? b=some o->h₀.get? b=some o) (eU:hb.get? dx=none)
 (q: ∀ah s' v r_ hs tk n',cG s ah->s'.os=ah.os->s'.gens=ah.gens->Rep C.wc ah.heap (md.ok own s.heap) v d->(∀b,b≠dx->s'.heap.get? b=ah.heap.get? b)->(∀b o,hb.get? b=some o->r_.get? b=some o)->
   St (C.mE a dx (dictOf (putL x hs (.str x tk) v es) n')) sc [] env r_ σ own s'->wpAny (model C.prog C.w) A (execs rest env) Q (λ_ _=>False) s')
 (X6: ∀env,env.scope=sc->swapsWith e (some (.Attribute (.Name y px) x pa)) pos.line env=pure false:=by intro env h;cases env;cases h;rfl) (vZ:autoParam ((y==("__debug__" :Str))=false) au):
 wpAny (model C.prog C.w) A (execs (.Assign [.Attribute (.Name y px) x pa] e pos::rest) env) Q (λ_ _=>False) s:=by
 refine tH (C:=C.mE a dx (dictOf es n)) Y hx he hy r S (λh B=>⟨hK h B.1,B.2.1,B.2.2⟩) hk hz (λah v h' t hs tk n' az bE rp e1 e2=>?_) X6 vZ
 have EF:h₀.get? dx=some (dictOf es n):=S.base.2.2
 have u1:(h₀.update dx λ_=>dictOf (putL x hs (.str x tk) v es) n').get? dx=some (dictOf (putL x hs (.str x tk) v es) n'):=Heap.get?_update_self _ EF rfl
 have u2: ∀b,b≠dx->(h₀.update dx λ_=>dictOf (putL x hs (.str x tk) v es) n').get? b=h₀.get? b:=λb hb=>Heap.get?_update_ne _ _ _ _ hb
 have GK: ∀b o,hb.get? b=some o->(h₀.update dx λ_=>dictOf (putL x hs (.str x tk) v es) n').get? b=some o:=λb o e=>by
  by_cases z:b=dx
  · rw[z,eU] at e;cases e
  · rw[u2 b z];exact dP b o e
 refine q ah {ah with heap:=h',toks:=t} v _ hs tk n' az rfl rfl rp e2 GK (St.rebase (dx:=dx) bE rfl (λm=>?_) e2 ⟨C.keeps _ _ cJ GK,?_,u1⟩ u2 (u1.trans e1.symm) (yv.of Lu))
 · have:=bE.fresh dx m;rw[EF] at this;cases this
 · rw[u2 a iO];exact S.base.2.1
end
structure WsCls(K:Frag)(wc f:Addr):Prop extends WsMk K wc f where
 reads:readsIn K wc (.type "type")=true
 nS: ∃t,findCls K (.ref wc) (.type "type") "S" =some (.val (.str " " t))
 nT: ∃t,findCls K (.ref wc) (.type "type") "T" =some (.val (.str "\t" t))
noncomputable def qP(a:Addr)(x:Str)(st:BX):Sg:=
 [("self",false,.addr a),("ws",false,.str x),("S",false,.str " "),("T",false,.str "\t"),("count",true,DL st.c),("b",false,.int st.b),("n",false,.int st.n),("nt",false,.int st.nt)]
theorem AY{A:Around}{C:Addr}{vs:List Value}{k:Nat}(r:bH A (k+1)):bH (A.under (.builtin "type.__call__" ⟨.ref C::vs,[]⟩)) k:=by
 have h1:(A.under (.builtin "type.__call__" ⟨.ref C::vs,[]⟩)).depth=A.depth+1:=depth_under_make A C vs
 have h2:(A.under (.builtin "type.__call__" ⟨.ref C::vs,[]⟩)).units<=A.units+10:=by
  show A.units+_<=_
  refine Nat.add_le_add_left ?_ _
  first|exact cB rfl|decide
 refine⟨r.1,?_,?_⟩
 · rw[h1];have:=r.2.1;exact KI this
 · have:=r.2.2;exact WQ this h2
section
variable{C:Cx}{k:Nat}
theorem aH.vo{c n:Nat}{y:Str}(hy:y.cps.toList=[n]):aH C k .Eq (.str ⟨#[c]⟩) (.str y) (c==n):=by
 have e:(c==n)=((⟨#[c]⟩:Str).cps.toList==y.cps.toList):=by
  rw[hy]
  show(c==n)=([c]==[n])
  simp
 rw[e];exact aH.eqStr
theorem Ex.brk{sc:Scope}{ro:List Str}{σ:Sg}{P:Sg->Fl->Prop}{pos:Pos}{rest:List Stmt}(h:P σ .brk):Ex C sc ro k σ (.Break pos::rest) P:=
 λA env h₀ own s Q r S q=>eX (wpAny_Break (q _ .brk s σ own (aO.refl _ _) (λ_ h _=>h) (λ_ h=>.inl h) S rfl h))
theorem sd(n:Nat)(d:D):(List.replicate n [d]).flatten=List.replicate n d:=by
 induction n with
 |zero=>rfl
 |succ n ih=>simp only[jz,mQ,ih];rfl
theorem bQ{l:List Int}{i:Nat}(h:i<l.length):(l.map D.int)[i]? =some (.int (l.getD i 0)):=by
 simp only[cM,cE h]
 simp[h]
noncomputable def kR(c:List Int)(b:Int):List Int:=if(c.length:Int)<=b then c++List.replicate (b-c.length+1).toNat 0 else c
theorem AZ{c:List Int}{b:Int}(h:0<=b):b<(kR c b).length/\ ((kR c b).length:Int)<=max (c.length:Int) (b+1):=by
 unfold kR
 split
 · rw[cF,rE];exact Xp
 · omega
theorem E8{K:Frag}{f a dx:Addr}{x:Str}{m:Str->Option Value}{t:Tok}{σ:Sg}{P:Sg->Fl->Prop}(Y:WsCls K C.wc f)(hB: ∀h,C.B h->K.In h/\ pO C.wc h a dx m)(hm:m "raw" =some (.str x t))(hx:x.length<=sizeLine)
 (hlen:bT C "len" (.builtin "len")) (h0:Sub (qP a x ⟨[],0,0,0⟩) σ) (hp: ∀aq,Le (qP a x (fG x.cps.toList)) aq->P aq .next):
 cH C (fScope (eO 1)) [] k σ ((fBody (eO 1)).getD 4 (.Pass default)) P:=by
 refine cH.jV (items:=x.cps.toList) (λc=>.str ⟨#[c]⟩) (λdone=>qP a x (bx done)) (λdone=>∀c∈done,jU c=true) (Le (qP a x (fG x.cps.toList)))
  (aN.str (Ev.E7 Y.toWsK (x:="raw") (md:=.any) (by decide) hB hm rfl (λ_ _=>⟨⟨_,rfl⟩,hx⟩) (Ev.o (.addr a) h0.1))) (λ_ _=>rfl) ⟨.inl rfl,ai⟩ h0 (λ_ h=>nomatch h) ?_ ?_ hp
 · intro done c left mZ qx
   obtain⟨b1,b2,b3⟩:=vm done
   have aF:sizeLine=16777216:=rfl
   have mq:done.length<x.length:=by
    show done.length<x.cps.size
    rw[<-gV,mZ];simp
   have yw: ∀c':Nat,jU c'=true-> ∀z∈done++[c'],jU z=true:=λc' h z hz=>(bB.mp hz).elim (qx z) λh'=>by rw[ay.mp h'];exact h
   refine Ex.one (R:=λaq=>jU c=true/\ Sub (qP a x (bx (done++[c]))) aq) (cH.ite (b:=c==32) (Te.cmp (Ev.o _ rfl) (Ev.o _ rfl) (aH.vo rfl)) (λhb=>?_) λhb=>?_) λaq h=>Ex.done (.inl ⟨rfl,yw c h.1,h.2⟩)
   · have hc:c=32:=by simpa using hb
     subst hc
     refine Ex.set (aP.jg (Ev.bin (Ev.o (.int (bx done).n) rfl) Ev.aG ak.add) rfl) ⟨.inl rfl,ai⟩ ?_
     refine Ex.set (aP.jg (Ev.bin (Ev.o (.int (bx done).b) rfl) Ev.aG ak.add) rfl) ⟨.inl rfl,ai⟩ (Ex.done (.inl ⟨rfl,rfl,?_⟩))
     rw[nq]
     exact⟨rfl,rfl,rfl,rfl,rfl,rfl,rfl,rfl,trivial⟩
   · have hc:c≠32:=by simpa using hb
     refine Ex.one (R:=λaq=>jU c=true/\ Sub (qP a x (bx (done++[c]))) aq) (cH.ite (b:=c==9) (Te.cmp (Ev.o _ rfl) (Ev.o _ rfl) (aH.vo rfl)) (λhb=>?_) λhb=>?_) λaq h=>Ex.done (.inl ⟨rfl,h⟩)
     · have hc:c=9:=by simpa using hb
       rw[hc]
       have hg:=AZ (c:=(bx done).c) b1
       refine Ex.set (aP.jg (Ev.bin (Ev.o (.int (bx done).n) rfl) Ev.aG ak.add) rfl) ⟨.inl rfl,ai⟩ ?_
       refine Ex.set (aP.jg (Ev.bin (Ev.o (.int (bx done).nt) rfl) Ev.aG ak.add) rfl) ⟨.inl rfl,ai⟩ ?_
       refine Ex.ite (Le (qP a x ⟨kR (bx done).c (bx done).b,(bx done).b,(bx done).n+1,(bx done).nt+1⟩)) (b:=decide ((((bx done).c.map D.int).length:Int)<=(bx done).b))
        (Te.cmp (Ev.o (.int (bx done).b) rfl) (Ev.call (ds:=[DL (bx done).c]) (aK.blt rfl hlen) (Ar.cons (Ev.p _ rfl) Ar.nil) aA.blt Fn.gm|>.up (.inl rfl)) aH.ge) (λhb=>?_) (λhb=>?_) λaq h=>?_
       · have pT:((bx done).c.length:Int)<=(bx done).b:=by simpa using hb
         have e:((bx done).c.map D.int++(List.replicate ((bx done).b-((bx done).c.map D.int).length+1).toNat [D.int 0]).flatten)=(kR (bx done).c (bx done).b).map D.int:=by
          unfold kR
          rw[af pT,sd,dN,List.map_replicate,aM]
         refine Ex.set (f:=true) (d:=DL (kR (bx done).c (bx done).b)) (aP.own ?_) ⟨.inl rfl,ai⟩ (Ex.done (.inl ⟨rfl,Sub.le ⟨rfl,rfl,rfl,rfl,rfl,rfl,rfl,rfl,trivial⟩⟩))
         rw[<-e]
         refine Ev.bin (Ev.p (DL (bx done).c) rfl) (Ev.bin (Ev.list (ds:=[.int 0]) (md:=.any) (Ar.cons Ev.aG Ar.nil) (by decide)) (Ev.bin (Ev.bin (Ev.o (.int (bx done).b) rfl)
          (Ev.call (ds:=[DL (bx done).c]) (aK.blt rfl hlen) (Ar.cons (Ev.p _ rfl) Ar.nil) aA.blt Fn.gm|>.up (.inl rfl)) ak.sub|>.up (.inl rfl)) Ev.aG ak.add|>.up (.inl rfl))
          (ak.zC (λd hd=>by rw[ay.mp hd];rfl) ?_ ?_ ?_)|>.up (.inr rfl)) (ak.nZ ?_ ?_)
         · rw[aM];exact Vr pT
         · rw[aM];exact W2 mq aF hx b2
         · rw[aM];simp only[pI];exact WT mq hx b2
         · intro d hd
           rcases bB.mp hd with hd|hd
           · exact bA _ d hd
           · rw[sd] at hd;rw[(List.mem_replicate.mp hd).2];rfl
         · rw[sd,rE,aM];exact Xi pT mq hx b2
       · have pT: ¬((bx done).c.length:Int)<=(bx done).b:=by simpa using hb
         have e:kR (bx done).c (bx done).b=(bx done).c:=by unfold kR;rw[aa pT]
         rw[e]
         exact Ex.done (.inl ⟨rfl,Sub.le ⟨rfl,rfl,rfl,rfl,rfl,rfl,rfl,rfl,trivial⟩⟩)
       · refine kM.weak h ?_
         have jP:(bx done).b.toNat<(kR (bx done).c (bx done).b).length:=T7 b1 hg.1
         refine Ex.setItem (ds:=(kR (bx done).c (bx done).b).map D.int) (i:=(bx done).b) rfl (Ev.o _ rfl) (Ev.bin (Ev.sub (md:=.any) (Ev.p (DL (kR (bx done).c (bx done).b)) rfl) (Ev.o (.int (bx done).b) rfl) (aL.list (bQ jP) b1)) Ev.aG ak.add) rfl b1 (by rw[aM];exact RS hg.1) ?_
         rw[<-List.map_set]
         refine Ex.set (aP.jg (md:=.any) Ev.aG rfl) ⟨.inl rfl,ai⟩ (Ex.done (.inl ⟨rfl,rfl,?_⟩))
         rw[nq]
         exact⟨rfl,rfl,rfl,rfl,rfl,rfl,rfl,rfl,trivial⟩
     · have hc9:c≠9:=by simpa using hb
       have X7:jU c=false:=by unfold jU;simp[hc,hc9]
       have:fG x.cps.toList=bx done:=by unfold fG;rw[mZ,takeWhile_stop qx X7]
       rw[this]
       exact Ex.brk (.inr ⟨Fl.noConfusion,.inr ⟨Fl.noConfusion,.inr (.inl ⟨rfl,Sub.le ⟨rfl,rfl,rfl,rfl,rfl,rfl,rfl,rfl,trivial⟩⟩)⟩⟩)
 · intro yw aq hle
   have:fG x.cps.toList=bx x.cps.toList:=by unfold fG;rw[takeWhile_all yw]
   rw[this];exact hle
end
theorem wW:fBody (eO 1)=[(fBody (eO 1)).getD 0 (.Pass default),(fBody (eO 1)).getD 1 (.Pass default),(fBody (eO 1)).getD 2 (.Pass default),(fBody (eO 1)).getD 3 (.Pass default),(fBody (eO 1)).getD 4 (.Pass default),
 (fBody (eO 1)).getD 5 (.Pass default),(fBody (eO 1)).getD 6 (.Pass default),(fBody (eO 1)).getD 7 (.Pass default),(fBody (eO 1)).getD 8 (.Pass default)]:=by rfl
noncomputable def Ia(a:Addr)(x:Str):Sg:=[("self",false,.addr a),("ws",false,.str x),("S",false,.str " "),("T",false,.str "\t")]
noncomputable def Ib(a:Addr)(x:Str):Sg:=[("self",false,.addr a),("ws",false,.str x),("S",false,.str " "),("T",false,.str "\t"),("count",true,DL [])]
theorem Ic{C:Cx}{K:Frag}{f a:Addr}{k:Nat}{x:Str}(hK: ∀h,C.B h->K.In h)(Y:WsCls K C.wc f)(hW:i_ C "Whitespace" (.ref C.wc)):
 cH C (fScope (eO 1)) [] k [("self",false,.addr a),("ws",false,.str x)] ((fBody (eO 1)).getD 1 (.Pass default)) λaq fl=>fl= .next/\ Le (Ia a x) aq:=by
 obtain⟨tS,hS⟩:=Y.nS
 obtain⟨tT,hT⟩:=Y.nT
 refine cH.wM (d₁:=.str " ") (d₂:=.str "\t") (dj.clean (Ev.tuple (Ar.cons (Ev.clsName hK Y.reads hS rfl (aK.glob rfl hW) λ_ _=>⟨⟨_,rfl⟩,by decide⟩)
  (Ar.cons (Ev.clsName hK Y.reads hT rfl (aK.glob rfl hW) λ_ _=>⟨⟨_,rfl⟩,by decide⟩) Ar.nil)) (by decide))) ⟨.inl rfl,ai⟩ ⟨.inl rfl,ai⟩ ⟨rfl,Sub.le ⟨rfl,rfl,rfl,rfl,trivial⟩⟩
theorem Ie{C:Cx}{a:Addr}{k:Nat}{x:Str}:
 cH C (fScope (eO 1)) [] k (Ia a x) ((fBody (eO 1)).getD 2 (.Pass default)) λaq fl=>fl= .next/\ Le (Ib a x) aq:=
 cH.assign (aP.own (Ev.list (ds:=[]) Ar.nil (by decide))) ⟨.inl rfl,ai⟩ ⟨rfl,Sub.le ⟨rfl,rfl,rfl,rfl,rfl,trivial⟩⟩
theorem Ig{C:Cx}{a:Addr}{k:Nat}{x:Str}:
 cH C (fScope (eO 1)) [] k (Ib a x) ((fBody (eO 1)).getD 3 (.Pass default)) λaq fl=>fl= .next/\ Le (qP a x ⟨[],0,0,0⟩) aq:=
 cH.three (md:=.any) Ev.aG rfl ⟨.inl rfl,ai⟩ ⟨.inl rfl,ai⟩ ⟨.inl rfl,ai⟩ ⟨rfl,Sub.le ⟨rfl,rfl,rfl,rfl,rfl,rfl,rfl,rfl,trivial⟩⟩
theorem lX(a:Addr)(x:Str)(st:BX):zH (qP a x st):=⟨⟨.inl rfl,λ_=>rfl⟩,⟨.inl rfl,λ_=>rfl⟩,⟨.inl rfl,λ_=>rfl⟩,⟨.inl rfl,λ_=>rfl⟩,⟨.inr ⟨_,rfl,bA _⟩,λh=>nomatch h⟩,⟨.inl rfl,λ_=>rfl⟩,⟨.inl rfl,λ_=>rfl⟩,⟨.inl rfl,λ_=>rfl⟩,trivial⟩
noncomputable def OG(s s':Shared):Prop:=s'.os=s.os/\ bF s.gens s'.gens
theorem OG.trans{a b c:Shared}(x:OG a b)(y:OG b c):OG a c:=⟨y.1.trans x.1,x.2.trans y.2⟩
theorem aO.og{own:List Addr}{s s':Shared}(a:aO own s s'):OG s s':=⟨a.os,a.gens⟩
theorem OG.of{s s':Shared}(h:s'.os=s.os)(g:s'.gens=s.gens):OG s s':=⟨h,by rw[g];exact bF.rfl'⟩
theorem Lv{C:Cx}{K:Frag}{f:Addr}{k:Nat}{x:Str}(hK: ∀h,C.B h->K.In h)(Y:WsCls K C.wc f)(hf:vj C 1 f)(hW:i_ C "Whitespace" (.ref C.wc))(hlen:bT C "len" (.builtin "len"))(X8:bT C "tuple" (.type "tuple")):
 Fn C (k+2) (.ref C.wc) [.str x] (.ws (wV x)):=by
 rintro A s _ Q r B ⟨v,_,rfl,⟨⟨t,rfl⟩,hx⟩,rfl⟩ q
 refine wpAny_call ?_
 obtain⟨hh,g,dr,tk,os⟩:=s
 refine make_core (makes_of (hK _ B) Y.makes) (looks_findIn (hK _ B) Y.init) (λself=>bind_fn (hK _ B) self Y.fn) (.inl rfl) ?_
 have B':C.B hh:=B
 have GL: ∀b o,hh.get? b=some o->((hh.push emptyDict).push (instObj C.wc hh.objs.size)).get? b=some o:=λb o e=>dh _ (dh _ e)
 have hsz:(hh.push emptyDict).objs.size=hh.objs.size+1:=Heap.size_push _ _
 have X5:((hh.push emptyDict).push (instObj C.wc hh.objs.size)).get? hh.objs.size=some emptyDict:=dh _ (cV _ rfl)
 have ha:((hh.push emptyDict).push (instObj C.wc hh.objs.size)).get? (hh.objs.size+1)=some (instObj C.wc hh.objs.size):=by rw[<-hsz];exact cV _ rfl
 have eU:hh.get? hh.objs.size=none:=bg _
 have Ih:hh.get? (hh.objs.size+1)=none:=by
  cases e:hh.get? (hh.objs.size+1) with
  |none=>rfl
  |some o=>exact absurd (fY e) (Nat.not_lt.mpr (Nat.le_succ _))
 generalize h1:(hh.push emptyDict).push (instObj C.wc hh.objs.size)=bX at*
 have iO:hh.objs.size+1≠hh.objs.size:=O3
 generalize aan:hh.objs.size=dx at*
 have aF:sizeLine=16777216:=rfl
 refine enterQ (C:=C.mE (dx+1) dx (dictOf [] 0)) (k:=k) (ds:=[.addr (dx+1),.str x]) (λh B=>hf h B.1) (AY r) ⟨C.keeps _ _ B' GL,ha,X5⟩ ⟨_,_,rfl,rfl,_,_,rfl,⟨⟨_,rfl⟩,hx⟩,rfl⟩ (λ_ _ _ _ _=>rfl) rfl (by decide) (by decide) (by decide) (by decide) (λA' env oh t' r' hL keep S=>?_)
 rw[wW]
 refine lF (C:=C) (hb:=hh) (d:=.str x) (md:=.clean) (es:=[]) Y.toWsMk hK (x:="raw") (by decide) (Ev.name rfl) rfl r' S rfl (by decide) ⟨⟨.inl rfl,λ_=>rfl⟩,⟨.inl rfl,λ_=>rfl⟩,trivial⟩ iO B' GL eU λah aE pW aao kT qy n₁ az Lw Lx Ly aac CD bE=>?_
 obtain⟨⟨kZ,rfl⟩,_⟩:=Ly
 have hB1: ∀h,(C.mE (dx+1) dx (dictOf (putL "raw" kT (.str "raw" qy) (.str x kZ) []) n₁)).B h->K.In h/\ pO C.wc h (dx+1) dx λy=>((putL "raw" kT (.str "raw" qy) (.str x kZ) []).find? (·.key.isStr y)).map (·.val):=
  λh B=>⟨hK h B.1,B.2.1,CB B.2.2 λe he=>by exact(ay.mp he)▸⟨_,_,rfl⟩⟩
 refine cH.after (C:=C.mE (dx+1) dx (dictOf (putL "raw" kT (.str "raw" qy) (.str x kZ) []) n₁)) (R:=Le (Ia (dx+1) x)) (Ic (λh B=>hK h B.1) Y hW.plus) r' (bE.weak (τ:=[("self",false,.addr (dx+1)),("ws",false,.str x)]) (Sub.le ⟨rfl,rfl,trivial⟩)) λaV aad X_ cL dX LA=>?_
 refine cH.after (C:=C.mE (dx+1) dx (dictOf (putL "raw" kT (.str "raw" qy) (.str x kZ) []) n₁)) (R:=Le (Ib (dx+1) x)) Ie r' (dX.weak LA) λcP wB mW fm gf LB=>?_
 refine cH.after (C:=C.mE (dx+1) dx (dictOf (putL "raw" kT (.str "raw" qy) (.str x kZ) []) n₁)) (R:=Le (qP (dx+1) x ⟨[],0,0,0⟩)) Ig r' (gf.weak LB) λcR wA jE g_ iF LC=>?_
 refine cH.after (C:=C.mE (dx+1) dx (dictOf (putL "raw" kT (.str "raw" qy) (.str x kZ) []) n₁)) (R:=Le (qP (dx+1) x (fG x.cps.toList))) (E8 (σ:=qP (dx+1) x ⟨[],0,0,0⟩) Y hB1 rfl hx hlen.plus ⟨rfl,rfl,rfl,rfl,rfl,rfl,rfl,rfl,trivial⟩ λaq h=>⟨rfl,h⟩) r' (iF.weak LC) λfF GN CE kF jk LD=>?_
 generalize Cj:fG x.cps.toList=st at*
 refine lF (C:=C) (hb:=hh) (d:=.int st.n) (md:=.clean) Y.toWsMk hK (x:="n") (by decide) (Ev.name rfl) rfl r' (jk.weak LD) rfl (cB rfl) (lX _ _ _) iO B' CD eU λqM qO ni aap ud GO aaq E0 LF LG LH aae Ii HW=>?_
 obtain⟨A_,rfl⟩:=LH
 refine lF (C:=C) (hb:=hh) (d:=.int st.nt) (md:=.clean) Y.toWsMk hK (x:="nt") (by decide) (Ev.name rfl) rfl r' HW rfl (cB rfl) (lX _ _ _) iO B' Ii eU λaar vp aas aat GP GQ aau E9 LI LJ LL aaf CF qX=>?_
 obtain⟨Ba,rfl⟩:=LL
 refine lF (C:=C) (hb:=hh) (d:=.tup [DT st.c,.int st.b]) (md:=.fresh) Y.toWsMk hK (x:="norm") (by decide) (Ev.tuple (Ar.cons (Ev.call (ds:=[DL st.c]) (aK.blt rfl X8.plus) (Ar.cons (Ev.p _ rfl) Ar.nil) aA.typ (Fn.tuple (bA _)))
  (Ar.cons (Ev.name (d:=.int st.b) rfl|>.up (.inl rfl)) Ar.nil)) (cB rfl)) rfl r' qX rfl (cB rfl) (lX _ _ _) iO B' CF eU λE_ NX aav aaw GR GS aax aY LM LN LO LP Ij Fb=>?_
 refine lF (C:=C) (hb:=hh) (d:=.bool (decide (((st.c.map D.int).length:Int)<=1))) (md:=.any) Y.toWsMk hK (x:="is_simple") (by decide) (Ev.cmp (Ev.call (ds:=[DL st.c]) (aK.blt rfl hlen.plus) (Ar.cons (Ev.p _ rfl) Ar.nil) aA.blt Fn.gm|>.up (.inl rfl)) Ev.aG aH.le) rfl r' Fb rfl (cB rfl) (lX _ _ _) iO B' Ij eU
  λNY ow aay aaz GU GV aaA om LQ LR LS LU Ik oz=>?_
 obtain rfl:=LS
 refine lS ⟨rfl,q (.ref (dx+1)) ow ?_ ?_⟩
 · have og:OG ⟨oh,g,dr,t',os⟩ ow:=((((((((((((az.og.trans (OG.of Lw Lx)).trans cL.og).trans fm.og).trans g_.og).trans kF.og).trans E0.og).trans (OG.of LF LG)).trans E9.og).trans (OG.of LI LJ)).trans aY.og).trans (OG.of LM LN)).trans om.og).trans (OG.of LQ LR)
   exact⟨λb o _ e=>oz.keep b o (Ik b o e),og.1,og.2⟩
 · have hw:wV x=⟨x,st.n,st.nt,st.c,st.b,decide (st.c.length<=1)⟩:=by unfold wV;rw[Cj]
   rw[hw]
   have GW:(vp.heap.get? dx).isSome=true:=by rw[qX.keep _ _ qX.base.2.2];rfl
   have GX: ∀b o,b≠dx->E_.heap.get? b=some o->ow.heap.get? b=some o:=λb o hb e=>(LU b hb).trans (om.get ((LP b hb).trans e))
   have CG: ∀b,vp.heap.get? b=none->hh.get? b=none:=λb e=>by
    cases z:hh.get? b with
    |none=>rfl
    |some o=>cases (qX.keep b o (CF b o z)).symm.trans e
   have LV: ∀b,vp.heap.get? b=none->b≠dx:=λb e z=>by rw[z] at e;rw[e] at GW;cases GW
   refine bk λG hG=>?_
   obtain⟨tu,vs,rfl,pu,ht,hs,w1,r1,e1,⟨tc,vc,rfl,⟨pc,_⟩,htc,pA,hri⟩,w2,r2,e2,⟨t4,rfl⟩,e3⟩:=LO
   refine hG ?_;clear hG G
   have zw:vs= #[.ref tc,.int st.b t4]:=by
    apply Array.ext'
    rw[e1,e2,e3]
   subst zw
   have Yb:ow.heap.get? dx=_:=oz.keep _ _ oz.base.2.2
   have haf:ow.heap.get? (dx+1)=some (instObj C.wc dx):=oz.keep _ _ oz.base.2.1
   refine⟨dx+1,dx,_,tu,tc,kZ,A_,Ba,t4,vc,rfl,Ih,eU,⟨haf,CB Yb ?_⟩,?_,rfl,hx,?_,?_,?_,rfl,CG _ pu,CG _ pc,iY ht (λo e=>GX _ o (LV _ pu) e),iY htc (λo e=>GX _ o (LV _ pc) e),pA,?_⟩
   · intro e he
     have he':e∈[(⟨kT,.str "raw" qy,.str x kZ⟩:DictEntry),⟨ud,.str "n" GO,.int st.n A_⟩,⟨GP,.str "nt" GQ,.int st.nt Ba⟩,⟨GR,.str "norm" GS,.ref tu⟩,⟨GU,.str "is_simple" GV,.bool (decide (((st.c.map D.int).length:Int)<=1))⟩]:=he
     simp only[aB,ai,or_false] at he'
     rcases he' with rfl|rfl|rfl|rfl|rfl<;>exact⟨_,_,rfl⟩
   · intro y hy
     have h5:y≠ "raw" /\ y≠ "n" /\ y≠ "nt" /\ y≠ "norm" /\ y≠ "is_simple":=by
      simpa [gj] using hy
     show Option.map _ (List.find? _ [(⟨kT,.str "raw" qy,.str x kZ⟩:DictEntry),⟨ud,.str "n" GO,.int st.n A_⟩,⟨GP,.str "nt" GQ,.int st.nt Ba⟩,⟨GR,.str "norm" GS,.ref tu⟩,⟨GU,.str "is_simple" GV,.bool (decide (((st.c.map D.int).length:Int)<=1))⟩])=none
     have ns: ∀(z:Str) (u:Tok),y≠z->(Value.str z u).isStr y=false:=λz u h=>by
      unfold Value.isStr
      simpa using λe=>h e.symm
     simp only[List.find?_cons,ns _ _ h5.1,ns _ _ h5.2.1,ns _ _ h5.2.2.1,ns _ _ h5.2.2.2.1,ns _ _ h5.2.2.2.2,List.find?_nil,Option.map_none]
   · rfl
   · rfl
   · show some (Value.bool (decide (((st.c.map D.int).length:Int)<=1)))=some (.bool (decide (st.c.length<=1)))
     rw[aM]
     congr 2
     exact decide_eq_decide.mpr (Qo)
   · exact aU.toInts hri
theorem nv(a b:Int):Builtin.Range.rangeSize a b 1=((b-a).toNat:Int):=by
 unfold Builtin.Range.rangeSize
 simp only[show(1:Int)>0 from by decide,if_true,Int.ediv_one]
 split<;>lia
theorem kU(n:Nat):Builtin.Range.rangeSize ((n:Int)-1) (-1) (-1)=(n:Int):=by
 unfold Builtin.Range.rangeSize
 simp only[show ¬((-1:Int)>0) from by decide,if_false]
 have: -(-1:Int)=1:=rfl
 rw[this,Int.ediv_one]
 split<;>lia
theorem qz{a b:Int}(ha: -(2 ^40)<=a/\ a<=2 ^40)(hb: -(2 ^40)<=b/\ b<=2 ^40):Builtin.Range.small a b 1=true:=by
 unfold Builtin.Range.small
 rw[nv]
 unfold Builtin.Range.rangeFitsLong
 simp only[cY,Bool.or_eq_true,decide_eq_true_eq,beq_iff_eq,show(1:Int)>0 from by decide,if_true]
 omega
theorem pZ{n:Nat}(hn:n<=2 ^40):Builtin.Range.small ((n:Int)-1) (-1) (-1)=true:=by
 unfold Builtin.Range.small
 rw[kU]
 unfold Builtin.Range.rangeFitsLong
 simp only[cY,Bool.or_eq_true,decide_eq_true_eq,beq_iff_eq,show ¬((-1:Int)>0) from by decide,if_false]
 exact Xx hn
theorem ee.jo{C:Cx}{k:Nat}{b:Int}(hb:b<=2 ^40)(h0: -(2 ^40)<=b):ee C k (.type "range") [.int b] ((List.range b.toNat).map λ(i:Nat)=>D.int i):=by
 have h:=ee.HP (C:=C) (k:=k) (b:=b) (n:=b.toNat) (qz (by lia) (by omega)) (by rw[nv];simp)
 have e:eS 0 1 b.toNat=(List.range b.toNat).map λ(i:Nat)=>D.int i:=by
  unfold eS
  refine List.map_congr_left λi _=>?_
  simp
 rwa [e] at h
theorem ee.lY{C:Cx}{k:Nat}{a b:Int}(ha:0<=a/\ a<=2 ^40)(hb:0<=b/\ b<=2 ^40):ee C k (.type "range") [.int a,.int b] ((List.range (b-a).toNat).map λ(i:Nat)=>D.int (a+i)):=by
 have h:=ee.HQ (C:=C) (k:=k) (a:=a) (b:=b) (n:=(b-a).toNat) (qz (KA ha.1 ha.2) (KA hb.1 hb.2)) (nv a b)
 have e:eS a 1 (b-a).toNat=(List.range (b-a).toNat).map λ(i:Nat)=>D.int (a+i):=by
  unfold eS
  refine List.map_congr_left λi _=>?_
  simp
 rwa [e] at h
theorem ee.ue{C:Cx}{k:Nat}{n:Nat}(hn:n<=2 ^40):ee C k (.type "range") [.int ((n:Int)-1),.int (-1),.int (-1)] ((List.range n).reverse.map λ(i:Nat)=>D.int i):=by
 have h:=ee.HR (C:=C) (k:=k) (a:=(n:Int)-1) (b:= -1) (c:= -1) (n:=n) (by decide) (PyProof.noPylong_small (by decide)) (pZ hn) (kU n)
 have e:eS ((n:Int)-1) (-1) n=(List.range n).reverse.map λ(i:Nat)=>D.int i:=by
  unfold eS
  refine List.ext_getElem (by simp) λi h1 h2=>?_
  simp only[List.getElem_map,List.getElem_range,List.getElem_reverse,List.length_range]
  simp at h1
  congr 1
  omega
 rwa [e] at h
section
variable{C:Cx}{k:Nat}
theorem Fn.CH{ds:List D}:Fn C k (.builtin "len") [.tup ds] (.int ds.length):=by
 rintro A s _ Q r B ⟨v,_,rfl,⟨a,vs,rfl,_,hl,hs,hr⟩,rfl⟩ q
 have l1:=hr.length
 have e1:vs.size=ds.length:=by rw[<-l1];simp
 have aF:sizeLine=16777216:=rfl
 rw[<-e1] at q
 exact aT (PyProof.Rows.len_tuple hl (OO aF hs) (q _ _ (cG.tok s _) ⟨_,rfl⟩)) (λ_ _ h=>h) λ_ _ h=>h
end
structure se(C:Cx)(K:Frag)(f:Addr):Prop where
 hK: ∀h,C.B h->K.In h
 cls:WsCls K C.wc f
 glob:i_ C "Whitespace" (.ref C.wc)
 len:bT C "len" (.builtin "len")
 tup:bT C "tuple" (.type "tuple")
 vq:bT C "range" (.type "range")
 mx:bT C "max" (.builtin "max")
structure fU(C:Cx)(K:Frag)(n:Nat)(a:Addr):Prop where
 at_:vj C n a
 find:findIn K (.ref C.wc) (dI (eO n))=some (some (.ref a))
 fn:typeIn K (.ref a)=some (.type "function")
noncomputable def gC(w:WS):Int:=max ((w.cnt.length:Int)-1) w.trail
theorem CI{C:Cx}{K:Frag}{f a:Addr}{k:Nat}{w:WS}(X:se C K f)(hf:fU C K 2 a):Fn C (k+1) (.ref a) [.ws w] (.int (gC w)):=by
 refine Fn.plainQ hf.at_ ?_ rfl (by decide) ?_ ?_ ?_ ?_ rfl rfl rfl
 · intro doc pm an cd ct vs hl
   obtain⟨v,rfl⟩:=tB hl
   rfl
 · decide
 · decide
 · decide
 · refine Ex.pair (dj.clean (Ev.vf X.hK X.cls.toWsK (Ev.name (d:=.ws w) rfl))) ⟨.inl rfl,ai⟩ ⟨.inl rfl,ai⟩ ?_
   have e:(w.cnt.map D.int).length=w.cnt.length:=aM _
   refine Ex.ret (md:=.fresh) (d:=.int (max (((w.cnt.map D.int).length:Int)-1) w.trail)) (Ev.call (ds:=[.int (((w.cnt.map D.int).length:Int)-1),.int w.trail]) (aK.blt rfl X.mx) (Ar.cons (Ev.bin (Ev.call (ds:=[DT w.cnt]) (aK.blt rfl X.len) (Ar.cons (Ev.o _ rfl) Ar.nil) aA.blt Fn.CH|>.up (.inl rfl)) Ev.aG ak.sub|>.up (.inl rfl))
    (Ar.cons (Ev.o _ rfl) Ar.nil)) aA.blt Fn.max2) (.inl rfl) (.inl ?_)
   rw[e];rfl
noncomputable def eG(cnt:List Int)(ts:Int)(l:List Nat):Int:=l.foldl (λil (j:Nat)=>il+(ts+j).fdiv ts*cnt.getD (ts+j).toNat 0) 0
noncomputable def dQ(w:WS)(ts:Int):Int:=w.trail+ts*(eG w.cnt ts (List.range ((w.cnt.length:Int)-ts).toNat)+w.nt)
theorem vt{C:Cx}{K:Frag}{f a:Addr}{k:Nat}{w:WS}{ts:Int}(X:se C K f)(hf:fU C K 3 a)(h1:1<=ts)(h2:ts<=1000)(hc:w.cnt.length<=1000):Fn C (k+1) (.ref a) [.ws w,.int ts] (.int (dQ w ts)):=by
 refine Fn.plainQ hf.at_ ?_ rfl (by decide) ?_ ?_ ?_ ?_ rfl rfl rfl
 · intro doc pm an cd ct vs hl
   obtain⟨v,w,rfl⟩:=mS hl
   rfl
 · decide
 · decide
 · decide
 · have e:(w.cnt.map D.int).length=w.cnt.length:=aM _
   refine Ex.pair (dj.clean (Ev.vf X.hK X.cls.toWsK (Ev.name (d:=.ws w) rfl))) ⟨.inl rfl,ai⟩ ⟨.inl rfl,ai⟩ ?_
   refine Ex.set (aP.jg (md:=.any) Ev.aG rfl) ⟨.inl rfl,ai⟩ ?_
   refine Ex.loop (items:=List.range (((w.cnt.map D.int).length:Int)-ts).toNat) (λ(j:Nat)=>D.int (ts+j))
    (λdone=>[("self",false,.ws w),("tabsize",false,.int ts),("count",false,DT w.cnt),("trailing",false,.int w.trail),("il",false,.int (eG w.cnt ts done))])
    (Le [("self",false,.ws w),("tabsize",false,.int ts),("trailing",false,.int w.trail),("il",false,.int (eG w.cnt ts (List.range ((w.cnt.length:Int)-ts).toNat)))])
    (aN.call (ds:=[.int ts,.int ((w.cnt.map D.int).length:Int)]) (aK.blt rfl X.vq) (Ar.cons (Ev.name rfl) (Ar.cons (Ev.call (ds:=[DT w.cnt]) (aK.blt rfl X.len) (Ar.cons (Ev.o _ rfl) Ar.nil) aA.blt Fn.CH|>.up (.inl rfl)) Ar.nil)) aA.typ (ee.lY (Tz h1 h2) (Q44 e hc)))
    (λ_ _=>rfl) ⟨.inl rfl,ai⟩ ⟨rfl,rfl,rfl,rfl,rfl,trivial⟩ ?_ ?_ ?_
   · intro done j left hj
     have Il:j∈List.range (((w.cnt.map D.int).length:Int)-ts).toNat:=by rw[hj];simp
     rw[bS] at Il
     have jP:(ts+j).toNat<w.cnt.length:=W3 h1 Il e
     have hb:0<=(ts+j).fdiv ts/\ (ts+j).fdiv ts<=2000:=by
      rw[rD _ (ZG h1)]
      constructor
      · exact Int.ediv_nonneg (OD h1) (ZG h1)
      · exact Int.le_trans (Int.ediv_le_self _ (OD h1)) (Ww jP hc)
     refine Ex.set (aP.jg (Ev.bin (Ev.o _ rfl) (Ev.bin (Ev.bin (Ev.o (.int (ts+j)) rfl) (Ev.o (.int ts) rfl) (ak.fdiv (by simp;exact ZO h1) (PyProof.noPylong_small (UI h1 h2)))|>.up (.inl rfl))
      (Ev.sub (md:=.any) (Ev.o (DT w.cnt) rfl) (Ev.o (.int (ts+j)) rfl) (aL.tup (bQ jP) (OD h1))) (ak.mul (lg (intBits_le_64 (Qa hb.1) (Qc hb.2))))|>.up (.inl rfl)) ak.add) rfl) ⟨.inl rfl,ai⟩ (Ex.done ?_)
     refine⟨rfl,rfl,rfl,rfl,?_,trivial⟩
     unfold eG
     rw[eE];rfl
   · intro aq hle
     refine Le.trans (Sub.le ⟨rfl,rfl,rfl,?_,trivial⟩) hle
     rw[e];rfl
   · intro aq hle
     refine kM.weak hle ?_
     exact Ex.ret (md:=.fresh) (Ev.bin (Ev.o _ rfl) (Ev.bin (Ev.o (.int ts) rfl) (Ev.bin (Ev.o _ rfl) (Ev.H7 (md:=.any) X.hK X.cls.toWsK (Ev.o (.ws w) rfl)) ak.add|>.up (.inl rfl)) (ak.mul (lg (intBits_le_64 (Z4 h1) (Qd h2))))|>.up (.inl rfl)) ak.add) (.inl rfl) (.inl rfl)
theorem Fc{C:Cx}{K:Frag}{f a:Addr}{k:Nat}{w z:WS}(X:se C K f)(hf:fU C K 4 a):Fn C (k+1) (.ref a) [.ws w,.ws z] (.bool (w.cnt==z.cnt&&w.trail==z.trail)):=by
 refine Fn.plainQ hf.at_ ?_ rfl (by decide) ?_ ?_ ?_ ?_ rfl rfl rfl
 · intro doc pm an cd ct vs hl
   obtain⟨v,w,rfl⟩:=mS hl
   rfl
 · decide
 · decide
 · decide
 · exact Ex.ret (md:=.any) (Ev.cmp (Ev.vf X.hK X.cls.toWsK (Ev.o (.ws w) rfl)) (Ev.vf X.hK X.cls.toWsK (Ev.o (.ws z) rfl)) aH.H6) (.inl rfl) (.inl rfl)
noncomputable def h_(w z:WS):Bool:=
 if z.n<=w.n then false else if(w.simple&&z.simple)=true then decide (w.nt<=z.nt) else
  (List.range (max (gC w) (gC z)+1+1-2).toNat).all λ(j:Nat)=>!decide (dQ z (2+j)<=dQ w (2+j))
theorem iP{C:Cx}{K:Frag}{f a:Addr}{n k:Nat}{sc:Scope}{ro:List Str}{σ:Sg}{o:Expr}{apos pos:Pos}{args:List Expr}{md AK:Md}{w:WS}{ds:List D}{d:D}(X:se C K f)(hm:fU C K n a)(hn:dI (eO n)∉gj)
 (h:Ev C sc ro k σ o md (.ws w)) (ha:Ar C sc ro k σ args AK ds) (hc:Fn C k (.ref a) (.ws w::ds) d)
 (cJ:autoParam (∀env,attributeBase o (dI (eO n)) env (eval o env)=eval o env) au)
 (rP:autoParam (∀env,((backTo pos (starEach args env)).all (λx=>!x.1)&&(backToKw pos (keywordEach [] env)).all (λx=>x.1.isSome)
   &&decide (args.length+([]:List Keyword).length+(if([]:List Keyword).isEmpty then 0 else 1)<30))=true) au)
 (aF:autoParam ((apos.endLine==pos.line)=true) au):Ev C sc ro k σ (.Call (.Attribute o (dI (eO n)) apos) args [] pos) .fresh d:=
 Ev.H8 X.hK X.cls.toWsK hm.find hm.fn (aA.fnQ hm.at_) hn h ha hc cJ rP aF
theorem yx{C:Cx}{K:Frag}{f a CJ Im:Addr}{k:Nat}{w z:WS}(X:se C K f)(hf:fU C K 6 a)(uf:fU C K 2 CJ)(Bb:fU C K 3 Im)(hw:w.cnt.length<=900/\ 0<=w.trail/\ w.trail<=900)(hz:z.cnt.length<=900/\ 0<=z.trail/\ z.trail<=900):
 Fn C (k+2) (.ref a) [.ws w,.ws z] (.bool (h_ w z)):=by
 refine Fn.plainQ hf.at_ ?_ rfl (by decide) ?_ ?_ ?_ ?_ rfl rfl rfl
 · intro doc pm an cd ct vs hl
   obtain⟨v,w,rfl⟩:=mS hl
   rfl
 · decide
 · decide
 · decide
 · let L0:Sg:=[("self",false,.ws w),("other",false,.ws z)]
   have S0: ∀{σ:Sg} {pos:Pos},σ.get "self" =some (false,.ws w)->Ev C (fScope (eO 6)) [] (k+1) σ (.Name "self" pos) .any (.ws w):=λh=>Ev.own h
   have O0: ∀{σ:Sg} {pos:Pos},σ.get "other" =some (false,.ws z)->Ev C (fScope (eO 6)) [] (k+1) σ (.Name "other" pos) .any (.ws z):=λh=>Ev.own h
   refine Ex.ite (b:=decide (z.n<=w.n)) (λaq=>¬z.n<=w.n/\ Le L0 aq) (Te.cmp (Ev.X0 X.hK X.cls.toWsK (S0 rfl)) (Ev.X0 X.hK X.cls.toWsK (O0 rfl)) aH.ge) (λhb=>?_) (λhb=>Ex.done (.inl ⟨rfl,by simpa using hb,Sub.le ⟨rfl,rfl,trivial⟩⟩)) λaq ⟨hn,hle⟩=>?_
   · have:h_ w z=false:=by unfold h_;rw[af (of_decide_eq_true hb)]
     rw[this]
     exact Ex.ret (md:=.any) Ev.gB (.inl rfl) (.inr ⟨Fl.noConfusion,.inl rfl⟩)
   · refine kM.weak hle ?_
     refine Ex.ite (b:=w.simple&&z.simple) (λaq=>¬(w.simple&&z.simple)=true/\ Le L0 aq) (Te.and (Te.ofBool (Ev.wO X.hK X.cls.toWsK (S0 rfl))) λ_=>Te.ofBool (Ev.wO X.hK X.cls.toWsK (O0 rfl))) (λhb=>?_)
      (λhb=>Ex.done (.inl ⟨rfl,by rw[hb];decide,Sub.le ⟨rfl,rfl,trivial⟩⟩)) λaq ⟨hs,hle⟩=>?_
     · have:h_ w z=decide (w.nt<=z.nt):=by unfold h_;rw[aa hn,af hb]
       rw[this]
       exact Ex.ret (md:=.any) (Ev.cmp (Ev.H7 X.hK X.cls.toWsK (S0 rfl)) (Ev.H7 X.hK X.cls.toWsK (O0 rfl)) aH.le) (.inl rfl) (.inr ⟨Fl.noConfusion,.inl rfl⟩)
     · refine kM.weak hle ?_
       have hL:h_ w z=(List.range (max (gC w) (gC z)+1+1-2).toNat).all λ(j:Nat)=>!decide (dQ z (2+j)<=dQ w (2+j)):=by
        unfold h_;rw[aa hn,aa hs]
       rw[hL]
       have hm:0<=max (gC w) (gC z)/\ max (gC w) (gC z)<=900:=by unfold gC;exact Xv hw.2.1 hw.1 hz.1 hw.2.2 hz.2.2
       refine Ex.set (d:=.int (max (gC w) (gC z)+1)) (aP.jg (Ev.bin (Ev.call (ds:=[.int (gC w),.int (gC z)]) (aK.blt rfl X.mx) (Ar.cons (iP X uf (by decide) (S0 rfl) (AK:=.any) Ar.nil (CI X uf)|>.up (.inl rfl)) (Ar.cons (iP X uf (by decide) (O0 rfl) (AK:=.any) Ar.nil (CI X uf)|>.up (.inl rfl)) Ar.nil)) aA.blt Fn.max2|>.up (.inl rfl)) Ev.aG ak.add) rfl) ⟨.inl rfl,ai⟩ ?_
       generalize max (gC w) (gC z)=mx at*
       let Ln:Sg:=[("self",false,.ws w),("other",false,.ws z),("n",false,.int (mx+1))]
       let ok:Nat->Bool:=λj=>!decide (dQ z (2+j)<=dQ w (2+j))
       refine Ex.one (R:=λ_=>((List.range (mx+1+1-2).toNat).all ok)=true) (cH.jV (items:=List.range (mx+1+1-2).toNat) (λ(j:Nat)=>D.int (2+j)) (λ_=>Ln) (λdone=>done.all ok=true) (λ_=>((List.range (mx+1+1-2).toNat).all ok)=true)
        (aN.call (ds:=[.int 2,.int (mx+1+1)]) (aK.blt rfl X.vq) (Ar.cons Ev.aG (Ar.cons (Ev.bin (Ev.o (.int (mx+1)) rfl) Ev.aG ak.add|>.up (.inl rfl)) Ar.nil)) aA.typ (ee.lY (by lia) (by lia)))
        (λ_ _=>rfl) ⟨.inl rfl,ai⟩ ⟨rfl,rfl,rfl,trivial⟩ rfl ?_ (λh aq _=>h) λaq h=>.inl ⟨rfl,h⟩) λaq h=>?_
       · intro done j left hj jW
         have Il:j∈List.range (mx+1+1-2).toNat:=by rw[hj];simp
         rw[bS] at Il
         refine Ex.ite (b:=decide (dQ z (2+j)<=dQ w (2+j))) (λaq=>ok j=true/\ Sub Ln aq) (Te.cmp (iP X Bb (by decide) (S0 rfl) (AK:=.any) (Ar.cons (Ev.o _ rfl) Ar.nil) (vt X Bb (ZW) (KN Il hm.2) (NI hw.1))|>.up (.inl rfl))
          (iP X Bb (by decide) (O0 rfl) (AK:=.any) (Ar.cons (Ev.o _ rfl) Ar.nil) (vt X Bb (ZW) (KN Il hm.2) (NI hz.1))|>.up (.inl rfl)) aH.ge) (λhb=>?_) (λhb=>Ex.done (.inl ⟨rfl,by show(!_)=true;rw[hb];rfl,rfl,rfl,rfl,trivial⟩)) λaq ⟨h1,h2⟩=>Ex.done (.inl ⟨rfl,?_,h2⟩)
         · have hf:((List.range (mx+1+1-2).toNat).all ok)=false:=by
            rw[List.all_eq_false]
            exact⟨j,by rw[bS];exact Il,by show ¬(!_)=true;rw[hb];decide⟩
           rw[hf]
           exact Ex.ret (md:=.any) Ev.gB (.inl rfl) (.inr ⟨Fl.noConfusion,.inr (.inr ⟨_,rfl,.inr ⟨Fl.noConfusion,.inl rfl⟩⟩)⟩)
         · rw[List.all_append,jW];simpa using h1
       · rw[h]
         exact Ex.ret (md:=.any) Ev.gB (.inl rfl) (.inl rfl)
theorem kW{α:Type}(l:List α)(a:Nat): ∀n,((List.range n).map (a+ ·)).filterMap (l[·]?)=(l.drop a).take n
 |0=>rfl
 |n+1=>by
  simp only[List.range_succ,dN,pF,kW l a n,List.take_add_one]
  congr 1
  simp only[List.map_singleton,List.getElem?_drop]
  cases h:l[a+n]? with
  |none=>simp[List.filterMap,h]
  |some x=>simp[List.filterMap,h]
theorem CK{α:Type}{l:List α}{lo hi:Option Int}{a b:Nat}(e:sliceBounds lo hi none l.length=((a:Int),(b:Int),1)):pick l lo hi none=(l.drop a).take (b-a):=by
 unfold pick
 rw[e]
 show(sliceRange a b 1).filterMap _=_
 simp only[sliceRange_one,kW]
theorem Bc{α:Type}(l:List α):pick l none (some (-1)) none=l.dropLast:=by
 rw[CK (a:=0) (b:=l.length-1),List.drop_zero,Nat.sub_zero,List.dropLast_eq_take]
 rw[sliceBounds_plain]
 show((0:Int),(((clipAt l.length (-1)):Nat):Int),(1:Int))=_
 have:clipAt l.length (-1)=l.length-1:=by unfold clipAt;split<;>omega
 rw[this];rfl
noncomputable def jX(L:Int->Int->Bool)(k:Int):List Int->List Int
 |[]=>[]
 |j::r=>if L j k then j::r else jX L k r
structure Yc where
 over:List Int
 pile:List Int
noncomputable def jY(L:Int->Int->Bool)(st:Yc)(k:Int):Yc:=⟨st.over++[((jX L k st.pile)++[-1]).headD 0],k::jX L k st.pile⟩
noncomputable def dw(L:Int->Int->Bool)(l:List Int):Yc:=l.foldl (jY L) ⟨[-1],[0]⟩
noncomputable def vv(L:Int->Int->Bool)(n:Nat):List Int:=(dw L ((List.range (n-1)).map λ(i:Nat)=>(1+i:Int))).over
noncomputable def ny(cu:List WS)(j k:Int):Bool:=match cu[j.toNat]?,cu[k.toNat]? with
 |some w,some z=>h_ w z
 |_,_=>false
theorem sf(L:Int->Int->Bool)(k:Int): ∀l x,x∈jX L k l->x∈l
 |[],_,h=>h
 |j::r,x,h=>by
  unfold jX at h
  split at h
  · exact h
  · exact .tail _ (sf L k r x h)
theorem vz(L:Int->Int->Bool)(l:List Int): ∀x∈(dw L l).pile,x=0 \/x∈l:=by
 generalize hn:l.length=n
 induction n generalizing l with
 |zero=>
  have:l=[]:=gh hn
  subst this
  intro x hx
  exact .inl (ay.mp hx)
 |succ n ih=>
  obtain⟨l',ch,rfl⟩: ∃l' ch,l=l'++[ch]:=⟨l.dropLast,l.getLast (by intro e;rw[e] at hn;cases hn),(iV _).symm⟩
  have uc:l'.length=n:=by simpa using hn
  intro x hx
  unfold dw at hx
  rw[eE] at hx
  rcases aB.mp hx with rfl|hx
  · exact .inr (by simp)
  · exact(ih l' uc x (sf _ _ _ _ hx)).imp id λh=>dY _ h
theorem vA(L:Int->Int->Bool)(l:List Int):(dw L l).over.length=l.length+1/\ (dw L l).pile.length<=l.length+1:=by
 generalize hn:l.length=n
 induction n generalizing l with
 |zero=>
  have:l=[]:=gh hn
  subst this
  exact⟨rfl,aR _⟩
 |succ n ih=>
  obtain⟨l',ch,rfl⟩: ∃l' ch,l=l'++[ch]:=⟨l.dropLast,l.getLast (by intro e;rw[e] at hn;cases hn),(iV _).symm⟩
  have uc:l'.length=n:=by simpa using hn
  have h:=ih l' uc
  have hp: ∀k p,(jX L k p).length<=p.length:=λk p=>by
   induction p with
   |nil=>exact aR _
   |cons j r ih=>unfold jX;split<;>simp only[eF]<;>lia
  unfold dw
  rw[eE]
  have h1:=hp ch (dw L l').pile
  refine⟨?_,?_⟩
  · show((dw L l').over++[_]).length=_
    simp only[cF,h.1];rfl
  · show(jX L ch (dw L l').pile).length+1<=_
    exact UU h.2 h1
theorem CL{l:List Int}{j:Int}{r:List Int}(h:l=(j::r).reverse):(l.map D.int)[((-1:Int)+(l.map D.int).length).toNat]? =some (.int j):=by
 subst h
 have e:((-1:Int)+(((j::r).reverse.map D.int).length:Int)).toNat=(r.reverse.map D.int).length:=by simp;exact TA
 rw[e,List.reverse_cons,dN,List.getElem?_append_right (aR _)]
 simp
theorem Io{C:Cx}{K:Frag}{f a LW CJ Im:Addr}{k:Nat}{cu:List WS}(X:se C K f)(hf:bu C 75 a)(GY:fU C K 6 LW)(uf:fU C K 2 CJ)(Bb:fU C K 3 Im)(hb: ∀w∈cu,w.cnt.length<=900/\ 0<=w.trail/\ w.trail<=900)
 (h0:1<=cu.length) (hn:cu.length<=1000):Fn C (k+3) (.ref a) [.list (cu.map .ws)] (DL (vv (ny cu) cu.length)):=by
 refine Fn.plain hf.2 ?_ rfl (by decide) ?_ ?_ ?_ ?_ rfl rfl rfl
 · intro pm cd doc vs hl
   obtain⟨v,rfl⟩:=tB hl
   rfl
 · decide
 · decide
 · decide
 · have aF:sizeLine=16777216:=rfl
   have hlen:(cu.map D.ws).length=cu.length:=aM _
   refine Ex.set (aP.own (Ev.list (ds:=[.int (-1)]) (md:=.fresh) (Ar.cons (Ev.un Ev.aG iE.neg|>.up (.inl rfl)) Ar.nil) (by decide))) ⟨.inl rfl,ai⟩ ?_
   refine Ex.set (f:=false) (aP.fresh (Ev.list (ds:=[.int 0]) (md:=.fresh) (Ar.cons Ev.aG Ar.nil) (by decide))) ⟨.inl rfl,ai⟩ ?_
   let L:=ny cu
   let em:Nat->Int:=λi=>1+i
   refine Ex.loop (items:=List.range (((cu.map D.ws).length:Int)-1).toNat) (λ(i:Nat)=>D.int (1+i))
    (λdone=>[("leads",false,.list (cu.map .ws)),("over",true,DL (dw L (done.map em)).over),("pile",false,DL (dw L (done.map em)).pile.reverse)])
    (Le [("over",true,DL (vv L cu.length))])
    (aN.call (ds:=[.int 1,.int ((cu.map D.ws).length:Int)]) (aK.blt rfl X.vq) (Ar.cons Ev.aG (Ar.cons (Ev.call (ds:=[.list (cu.map .ws)]) (aK.blt rfl X.len) (Ar.cons (Ev.o _ rfl) Ar.nil) aA.blt Fn.gm|>.up (.inl rfl)) Ar.nil)) aA.typ (ee.lY (by lia) (by lia)))
    (λ_ _=>rfl) ⟨.inl rfl,ai⟩ ⟨rfl,rfl,rfl,trivial⟩ ?_ ?_ λaq hle=>kM.weak hle (Ex.mU rfl (bA _) (.inl rfl))
   · intro done i left hi
     have GZ:i∈List.range (((cu.map D.ws).length:Int)-1).toNat:=by rw[hi];simp
     rw[bS] at GZ
     have mq:done.length<cu.length:=by
      have:=congrArg List.length hi
      simp at this;exact Sp this
     have LX:=vz L (done.map em)
     have zI:=vA L (done.map em)
     rw[aM] at zI
     have qx: ∀x∈done,x<cu.length:=λx hx=>by
      have:x∈List.range (((cu.map D.ws).length:Int)-1).toNat:=by rw[hi];exact dY _ hx
      rw[bS] at this;exact Vi this hlen
     have Iq: ∀x∈(dw L (done.map em)).pile,0<=x/\ x.toNat<cu.length:=λx hx=>by
      rcases LX x hx with rfl|hx
      · exact⟨cO _,h0⟩
      · obtain⟨y,hy,rfl⟩:=aQ.mp hx
        have:y∈List.range (((cu.map D.ws).length:Int)-1).toNat:=by rw[hi];exact dY _ hy
        rw[bS] at this
        exact⟨by show(0:Int)<=1+y;exact Q9,by show(1+(y:Int)).toNat<_;exact KP this hlen⟩
     have CM:dw L ((done++[i]).map em)=jY L (dw L (done.map em)) (1+i):=by
      unfold dw;simp only[dN,eE];rfl
     have Yd:done.length<=1000:=Rv mq hn
     generalize dw L (done.map em)=st at*
     have hk1:(1+(i:Int)).toNat<cu.length:=KP GZ hlen
     have hLk: ∀j:Int,0<=j-> ∀h:j.toNat<cu.length,L j (1+i)=h_ cu[j.toNat] cu[(1+(i:Int)).toNat]:=λj h0 h=>by
      show ny cu j (1+i)=_
      unfold ny
      simp only[cE h,cE hk1]
     let τ:List Int->Sg:=λp=>[("leads",false,.list (cu.map .ws)),("over",true,DL st.over),("pile",false,DL p.reverse),("k",false,.int (1+i))]
     refine Ex.pY (α:=List Int) τ (λp=>(∀x∈p,0<=x/\ x.toNat<cu.length)/\ jX L (1+i) p=jX L (1+i) st.pile) List.length (Le (τ (jX L (1+i) st.pile))) st.pile ⟨Iq,rfl⟩ ⟨rfl,rfl,rfl,rfl,trivial⟩ ?_ ?_
     · rintro p ⟨Ir,G0⟩
       cases p with
       |nil=>
        refine⟨false,?_,(λh=>nomatch h),λ_ aq hle=>?_⟩
        · exact Te.and (b₁:=false) (b₂:=false) (Te.cmp (Ev.o (DL []) rfl) (Ev.list (ds:=[]) (md:=.any) Ar.nil (by decide)) (aH.rY (l:=[]) (m:=[]))) (λh=>nomatch h)
        · rw[<-G0];exact hle
       |cons j r=>
        obtain⟨Ye,LY⟩:=Ir j (.head _)
        refine⟨true&& !(h_ cu[j.toNat] cu[(1+(i:Int)).toNat]==true),?_,λhb=>?_,λhb aq hle=>?_⟩
        · have ne:(!((j::r).reverse==([]:List Int)))=true:=by simp
          refine Te.and (by rw[<-ne];exact Te.cmp (Ev.o (DL (j::r).reverse) rfl) (Ev.list (ds:=[]) (md:=.any) Ar.nil (by decide)) (aH.rY (l:=(j::r).reverse) (m:=[]))) λ_=>?_
          refine Te.cmp (iP X GY (by decide) (Ev.sub (md:=.any) (Ev.o (.list (cu.map .ws)) rfl) (Ev.sub (md:=.any) (Ev.o (DL (j::r).reverse) rfl) (Ev.un Ev.aG iE.neg|>.up (.inl rfl)) (aL.uS (CL rfl) (by decide) (by simp;exact ZX))) (aL.list (d:=.ws cu[j.toNat]) (by simp only[cM,cE LY];rfl) Ye))
           (AK:=.any) (Ar.cons (Ev.sub (md:=.any) (Ev.o (.list (cu.map .ws)) rfl) (Ev.o (.int (1+i)) rfl) (aL.list (d:=.ws cu[(1+(i:Int)).toNat]) (by simp only[cM,cE hk1];rfl) (Q9))) Ar.nil) (yx X GY uf Bb (hb _ (jy _)) (hb _ (jy _)))|>.up (.inl rfl)) Ev.gB aH.dc
        · refine Ex.set (f:=false) (d:=DL r.reverse) (aP.fresh ?_) ⟨.inl rfl,ai⟩ (Ex.done (.inl ⟨rfl,r,by simp,⟨λx hx=>Ir x (.tail _ hx),?_⟩,rfl,rfl,rfl,rfl,trivial⟩))
          · have e:(pick ((j::r).reverse.map D.int) none (some (-1)) none)=r.reverse.map D.int:=by
             rw[Bc,List.reverse_cons,dN];simp
            show Ev _ _ _ _ _ _ _ (.list (r.reverse.map D.int))
            rw[<-e]
            exact Ev.jR (Ev.o _ rfl) (bA _) trivial (show cI _ _ _ _ _ (some _) (some (-1)) from(Ev.un Ev.aG iE.neg|>.up (.inl rfl))) trivial (by decide)
          · rw[<-G0]
            have:L j (1+i)=false:=by rw[hLk j Ye LY];simpa using hb
            conv=>rhs;unfold jX
            rw[this];rfl
        · have:jX L (1+i) (j::r)=j::r:=by
           have:L j (1+i)=true:=by rw[hLk j Ye LY];simpa using hb
           unfold jX;rw[this];rfl
          rw[<-G0,this];exact hle
     · intro aq hle
       refine kM.weak hle ?_
       have hq:=sf L (1+i) st.pile
       have G2:(jX L (1+i) st.pile).length<=st.pile.length:=by
        have hp: ∀k p,(jX L k p).length<=p.length:=λk p=>by
         induction p with
         |nil=>exact aR _
         |cons j r ih=>unfold jX;split<;>simp only[eF]<;>lia
        exact hp _ _
       rw[CM]
       unfold jY
       generalize jX L (1+i) st.pile=p at*
       have e1:([D.int (-1)]++p.reverse.map D.int)=((p++[-1]).reverse).map D.int:=by simp
       obtain⟨j,r,Yg⟩: ∃j r,p++[-1]=j::r:=by cases p with|nil=>exact⟨_,_,rfl⟩|cons j r=>exact⟨j,r++[-1],rfl⟩
       refine Ex.push (ds:=st.over.map D.int) (d:=.int j) rfl (md:=.any) (Ev.sub (md:=.any) (Ev.bin (Ev.list (ds:=[.int (-1)]) (md:=.any) (Ar.cons (Ev.un Ev.aG iE.neg|>.up (.inl rfl)) Ar.nil) (by decide)) (Ev.o (DL p.reverse) rfl) (ak.nZ ?_ ?_)|>.up (.inr rfl)) (Ev.un Ev.aG iE.neg|>.up (.inl rfl)) (aL.uS ?_ (by decide) ?_)) (.inl rfl) ?_ ?_
       · exact e1▸bA _
       · simp;exact WH mq aF zI.2 hn G2
       · rw[e1,Yg];exact CL rfl
       · rw[e1,Yg];simp;exact ZX
       · rw[aM];exact Vj zI.1 aF Yd
       · have e2:(p.reverse.map D.int++[D.int (1+i)])=(((1+(i:Int))::p).reverse).map D.int:=by simp
         refine Ex.set (f:=false) (d:=DL ((1+(i:Int))::p).reverse) (aP.fresh ?_) ⟨.inl rfl,ai⟩ (Ex.done ⟨rfl,?_,rfl,trivial⟩)
         · show Ev _ _ _ _ _ _ _ (.list ((((1+(i:Int))::p).reverse).map D.int))
           rw[<-e2]
           exact Ev.bin (Ev.o (DL p.reverse) rfl) (Ev.list (ds:=[.int (1+i)]) (md:=.any) (Ar.cons (Ev.o _ rfl) Ar.nil) (cB rfl)) (ak.nZ ((e2▸bA _)) (by simp;exact WI mq aF zI.2 hn G2))
         · show some (true,D.list (st.over.map D.int++[D.int j]))=some (true,D.list ((st.over++[(p++[-1]).headD 0]).map D.int))
           rw[Yg,dN];rfl
   · intro aq hle
     refine Le.trans (Sub.le ⟨?_,trivial⟩) hle
     have e:(((cu.map D.ws).length:Int)-1).toNat=cu.length-1:=Uw hlen
     rw[e];rfl
theorem lG{n k:Nat}{done left:List Nat}(h:(List.range n).reverse=done++k::left):k<n/\ (∀p,k<p->p<n->p∈done)/\ ∀p∈done,k<p/\ p<n:=by
 have hp:(List.range n).reverse.Pairwise (· > ·):=by rw[List.pairwise_reverse];exact List.pairwise_lt_range
 have hm: ∀p,p∈done++k::left↔p<n:=λp=>by rw[<-h,List.mem_reverse,bS]
 rw[h,List.pairwise_append] at hp
 obtain⟨_,h2,h3⟩:=hp
 refine⟨(hm k).mp (by simp),λp h4 h5=>?_,λp EP=>⟨h3 p EP k (.head _),(hm p).mp (dY _ EP)⟩⟩
 rcases bB.mp ((hm p).mpr h5) with h6|h6
 · exact h6
 · rcases aB.mp h6 with rfl|h6
   · omega
   · have:=(List.pairwise_cons.mp h2).1 p h6
     omega
structure Fd where
 full:List Int
 bare:List Int
noncomputable def CN(full bare numbers sizes:List Int)(e:Int):Nat->Int->Int->Int->Int×Int
 |0,f,_,b=>(f,b)
 |n+1,f,p,b=>if p<e then CN full bare numbers sizes e n (f*full.getD p.toNat 0+numbers.getD p.toNat 0*bare.getD p.toNat 0*b) (p+sizes.getD p.toNat 0) (b*full.getD p.toNat 0) else(f,b)
noncomputable def qA(sizes numbers:List Int)(x:Int)(st:Fd)(k:Nat):Fd:=
 ⟨st.full.set k (x*(CN st.full st.bare numbers sizes (k+sizes.getD k 0) sizes.length 0 (k+1) 1).2-(CN st.full st.bare numbers sizes (k+sizes.getD k 0) sizes.length 0 (k+1) 1).1),
  st.bare.set k (CN st.full st.bare numbers sizes (k+sizes.getD k 0) sizes.length 0 (k+1) 1).2⟩
noncomputable def jq(sizes numbers:List Int)(x:Int)(l:List Nat):Fd:=l.foldl (qA sizes numbers x) ⟨sizes.map λ_=>0,sizes.map λ_=>1⟩
noncomputable def gx(sizes numbers:List Int)(x:Int):Int:=(jq sizes numbers x (List.range sizes.length).reverse).full.getD 0 0
noncomputable def eB:Nat->Nat
 |0=>803
 |m+1=>(m+1)*(eB m+11)+803
theorem zJ{m n:Nat}(h:m<=n):eB m<=eB n:=by
 induction h with
 |refl=>exact aR _
 |step h ih=>
  refine aX ih ?_
  show _<=(_+1)*(eB _+11)+803
  rw[Nat.add_mul]
  exact Ss
open Builtin.Int in
noncomputable abbrev Bt(e:Nat)(a:Int):Prop:=intBits a<=e
theorem Bt.up{e e':Nat}{a:Int}(h:Bt e a)(h':e<=e'):Bt e' a:=aX h h'
theorem nA(sizes numbers:List Int)(x:Int)(l:List Nat)(k:Nat):jq sizes numbers x (l++[k])=qA sizes numbers x (jq sizes numbers x l) k:=by
 unfold jq;rw[eE];rfl
theorem ug(sizes numbers:List Int)(x:Int)(l:List Nat):(jq sizes numbers x l).full.length=sizes.length/\ (jq sizes numbers x l).bare.length=sizes.length:=by
 generalize hn:l.length=n
 induction n generalizing l with
 |zero=>
  have:l=[]:=gh hn
  subst this
  exact⟨aM _,aM _⟩
 |succ n ih=>
  obtain⟨l',ch,rfl⟩: ∃l' ch,l=l'++[ch]:=⟨l.dropLast,l.getLast (by intro e;rw[e] at hn;cases hn),(iV _).symm⟩
  have uc:l'.length=n:=by simpa using hn
  rw[nA]
  unfold qA
  exact⟨by rw[List.length_set];exact(ih l' uc).1,by rw[List.length_set];exact(ih l' uc).2⟩
theorem yy{sizes numbers:List Int}{x:Int}{l:List Nat}{k:Nat}(hk:k∉l)(h:k<sizes.length):(jq sizes numbers x l).bare.getD k 0=1:=by
 generalize hn:l.length=n
 induction n generalizing l with
 |zero=>
  have:l=[]:=gh hn
  subst this
  show(sizes.map λ_=>(1:Int)).getD k 0=1
  simp[List.getD,h]
 |succ n ih=>
  obtain⟨l',ch,rfl⟩: ∃l' ch,l=l'++[ch]:=⟨l.dropLast,l.getLast (by intro e;rw[e] at hn;cases hn),(iV _).symm⟩
  have uc:l'.length=n:=by simpa using hn
  rw[nA]
  unfold qA
  have iO:ch≠k:=λe=>hk (by rw[e];simp)
  show(List.set _ ch _).getD k 0=1
  rw[bM,List.getElem?_set_ne iO,<-bM]
  exact ih (λh=>hk (dY _ h)) uc
theorem ig{l:List Int}{k j:Nat}{v:Int}(h:k<l.length):(l.set k v).getD j 0=if j=k then v else l.getD j 0:=by
 rw[bM,List.getElem?_set]
 by_cases q:k=j
 · rw[af q,af q.symm,af h];rfl
 · rw[aa q,aa (Ne.symm q),<-bM]
theorem mapConst(c:Int)(l:List Int):(l.map D.int).filterMap (fZ λ_=>.int c)=(l.map λ_=>c).map D.int:=by
 simp only[dO,cN];rfl
theorem vB{l:List Int}{k:Nat}{v:Int}:(l.map D.int).set k (.int v)=(l.set k v).map D.int:=by rw[List.map_set]
theorem set_same{l:List Int}{k:Nat}{v:Int}(h:l.getD k 0=v)(hk:k<l.length):l.set k v=l:=by
 subst h
 rw[bM,cE hk]
 exact List.set_getElem_self hk
theorem Bt.mul{m n:Nat}{a b:Int}(ha:Bt m a)(hb:Bt n b):Bt (m+n) (a*b):=intBits_mul_le ha hb
theorem Bt.add{m n:Nat}{a b:Int}(ha:Bt m a)(hb:Bt n b):Bt (max m n+1) (a+b):=intBits_add_le ha hb
theorem Bt.sub{m n:Nat}{a b:Int}(ha:Bt m a)(hb:Bt n b):Bt (max m n+1) (a-b):=intBits_sub_le ha hb
theorem eB5:eB 5<=270000:=by decide
structure Yh where
 c:Nat
 f:Int
 p:Int
 b:Int
noncomputable def Iu(sizes numbers:List Int)(x:Int)(st:Fd):Sg:=[("sizes",false,DL sizes),("numbers",false,DL numbers),("x",false,.int x),("full",true,DL st.full),("bare",true,DL st.bare)]
theorem Fe{C:Cx}{a:Addr}{k:Nat}{sizes numbers:List Int}{x:Int}(hf:bu C 78 a)(hlen:bT C "len" (.builtin "len"))(yz:bT C "range" (.type "range"))
 (h1:1<=sizes.length) (h6:sizes.length<=6) (hs: ∀j,j<sizes.length->1<=sizes.getD j 0/\ (j:Int)+sizes.getD j 0<=sizes.length) (xY:sizes.length<=numbers.length) (sj: ∀j,j<sizes.length->Bt 10 (numbers.getD j 0)) (hx:Bt 800 x):
 Fn C (k+1) (.ref a) [DL sizes,DL numbers,.int x] (.int (gx sizes numbers x)):=by
 refine Fn.plain hf.2 ?_ rfl (by decide) ?_ ?_ ?_ ?_ rfl rfl rfl
 · intro pm cd doc vs hl
   obtain⟨u,v,w,rfl⟩:=BZ hl
   rfl
 · decide
 · decide
 · decide
 · have aF:sizeLine=16777216:=rfl
   have CO:(sizes.map D.int).length=sizes.length:=aM _
   refine Ex.gv (items:=sizes.map D.int) (g:=fZ λ_=>.int 0) true (cC.name (aN.list (Ev.name rfl) (bA _)) (bA _) trivial (λd hd=>?_) (Kg aF CO h6)) ⟨.inl rfl,ai⟩ ?_
   · obtain⟨i,_,rfl⟩:=aQ.mp hd
     exact⟨.inl rfl,Ev.aG⟩
   rw[mapConst]
   refine Ex.gv (items:=sizes.map D.int) (g:=fZ λ_=>.int 1) true (cC.name (aN.list (Ev.name rfl) (bA _)) (bA _) trivial (λd hd=>?_) (Kg aF CO h6)) ⟨.inl rfl,ai⟩ ?_
   · obtain⟨i,_,rfl⟩:=aQ.mp hd
     exact⟨.inl rfl,Ev.aG⟩
   rw[mapConst]
   refine Ex.one (R:=Le (Iu sizes numbers x (jq sizes numbers x (List.range sizes.length).reverse))) (cH.jV (items:=(List.range sizes.length).reverse) (λ(i:Nat)=>D.int i) (λdone=>Iu sizes numbers x (jq sizes numbers x done))
    (λdone=>∀p∈done,Bt (eB (sizes.length-1-p)) ((jq sizes numbers x done).full.getD p 0)/\ Bt (eB (sizes.length-1-p)) ((jq sizes numbers x done).bare.getD p 0)) (Le (Iu sizes numbers x (jq sizes numbers x (List.range sizes.length).reverse)))
    (aN.call (ds:=[.int ((sizes.length:Int)-1),.int (-1),.int (-1)]) (aK.blt rfl yz) (Ar.cons (by rw[<-CO];exact Ev.bin (Ev.call (ds:=[DL sizes]) (aK.blt rfl hlen) (Ar.cons (Ev.o _ rfl) Ar.nil) aA.blt Fn.gm|>.up (.inl rfl)) Ev.aG ak.sub|>.up (.inl rfl))
      (Ar.cons (Ev.un Ev.aG iE.neg|>.up (.inl rfl)) (Ar.cons (Ev.un Ev.aG iE.neg|>.up (.inl rfl)) Ar.nil))) aA.typ (ee.ue (PG h6)))
    (λ_ _=>rfl) ⟨.inl rfl,ai⟩ ⟨rfl,rfl,rfl,rfl,rfl,trivial⟩ (λ_ h=>nomatch h) ?_ (λ_ aq h=>h) λaq h=>.inl ⟨rfl,h⟩) λaq hle=>?_
   · intro done i left hi jW
     obtain⟨p_,qx,CP⟩:=lG hi
     have Yi:i∉done:=λh=>absurd (CP i h).1 (Nat.lt_irrefl _)
     obtain⟨l1,l2⟩:=ug sizes numbers x done
     have Lp:=yy (x:=x) (numbers:=numbers) Yi p_
     rw[nA]
     obtain⟨s1,s2⟩:=hs i p_
     generalize jq sizes numbers x done=st at*
     have hE:eB (sizes.length-2-i)<=270000:=aX (zJ (Qy h6)) eB5
     generalize hEe:eB (sizes.length-2-i)=E at*
     have Iv: ∀p:Int,(i:Int)+1<=p->p<(sizes.length:Int)->Bt E (st.full.getD p.toNat 0)/\ Bt E (st.bare.getD p.toNat 0):=λp q1 q2=>by
      obtain⟨b1,b2⟩:=jW p.toNat (qx p.toNat (TF q1) (VF q1 q2))
      have:eB (sizes.length-1-p.toNat)<=E:=by rw[<-hEe];exact zJ (V9 q1)
      exact⟨b1.up this,b2.up this⟩
     let Iw:Yh->Sg:=λw=>[("sizes",false,DL sizes),("numbers",false,DL numbers),("x",false,.int x),("full",true,DL st.full),("bare",true,DL (st.bare.set i w.b)),("k",false,.int i),("first",false,.int w.f),("part",false,.int w.p)]
     let e:Int:=i+sizes.getD i 0
     let Inv:Yh->Prop:=λw=>(i:Int)+1+w.c<=w.p/\ CN st.full st.bare numbers sizes e (sizes.length-w.c) w.f w.p w.b=CN st.full st.bare numbers sizes e sizes.length 0 (i+1) 1/\ w.c+i+1<=sizes.length/\ Bt (w.c*(E+11)+1) w.f/\ Bt (w.c*(E+11)+1) w.b
     refine Ex.set (aP.jg (md:=.any) Ev.aG rfl) ⟨.inl rfl,ai⟩ ?_
     refine Ex.set (aP.jg (Ev.bin (Ev.o (.int i) rfl) Ev.aG ak.add) rfl) ⟨.inl rfl,ai⟩ ?_
     refine Ex.pY (α:=Yh) Iw Inv (λw=>(e-w.p).toNat) (λaq=>∃w,Inv w/\ ¬w.p<e/\ Le (Iw w) aq) ⟨0,0,i+1,1⟩ ⟨by show(i:Int)+1+((0:Nat):Int)<=(i:Int)+1;exact UJ,rfl,by show 0+i+1<=_;exact QV p_,?_,?_⟩ ⟨rfl,rfl,rfl,rfl,?_,rfl,rfl,rfl,trivial⟩ ?_ ?_
     · show Bt _ (0:Int);exact cB rfl
     · show Bt (0*(E+11)+1) (1:Int);rw[Nat.zero_mul];exact cB rfl
     · rw[set_same Lp (Q1 p_ l2)];rfl
     · rintro ⟨c,f,p,b⟩ ⟨v1,v2,v3,v4,v5⟩
       dsimp only at v1 v2 v3 v4 v5
       have rk: ∀{pos:Pos},Ev C (fScope (bW 78)) [] k (Iw ⟨c,f,p,b⟩) (.Name "k" pos) .any (.int i):=Ev.o _ rfl
       have rp: ∀{pos:Pos},Ev C (fScope (bW 78)) [] k (Iw ⟨c,f,p,b⟩) (.Name "part" pos) .any (.int p):=Ev.o _ rfl
       refine⟨decide (p<e),Te.cmp rp (Ev.bin rk (Ev.sub (md:=.any) (Ev.o (DL sizes) rfl) rk (aL.list (bQ p_) (Q0))) ak.add|>.up (.inl rfl)) aH.lt,λhb=>?_,λhb aq hle=>⟨_,⟨v1,v2,v3,v4,v5⟩,by simpa using hb,hle⟩⟩
       have Be:p<e:=of_decide_eq_true hb
       have Iz:p.toNat<sizes.length:=by lia
       have NZ:0<=p:=T8 v1
       have iO:p.toNat≠i:=VC v1
       obtain⟨g1,g2⟩:=Iv p (VG v1) (by lia)
       have g3:=sj p.toNat Iz
       have hc4:c<=4:=by lia
       have LZ:c*(E+11)+1<=1400000:=by
        have:c*(E+11)<=4*(E+11):=lz _ hc4
        exact Vs this hE
       have L1:sizes.length-c=(sizes.length-(c+1))+1:=by lia
       have rb: ∀{τ:Sg} {pos:Pos} {q:Expr} {j:Nat},τ.get "bare" =some (true,DL (st.bare.set i b))->Ev C (fScope (bW 78)) [] k τ q .any (.int j)->j<sizes.length->Ev C (fScope (bW 78)) [] k τ (.Subscript (.Name "bare" pos) q pos) .any (.int ((st.bare.set i b).getD j 0)):=λh1 h2 h3=>
        Ev.sub (md:=.any) (Ev.p _ h1) h2 (aL.list (bQ (by simp;exact Q1 h3 l2)) (Q0))
       have eb1:(st.bare.set i b).getD p.toNat 0=st.bare.getD p.toNat 0:=by rw[ig (Q1 p_ l2),aa iO]
       have JG:(st.bare.set i b).getD i 0=b:=by rw[ig (Q1 p_ l2),af rfl]
       have L2: ∀{j:Int},0<=j->j.toNat<sizes.length->aL C k (DL (st.bare.set i b)) (.int j) (.int ((st.bare.set i b).getD j.toNat 0)):=λh1 h2=>aL.list (bQ (by simp;exact Kq h2 l2)) h1
       have L3:aL C k (DL st.full) (.int p) (.int (st.full.getD p.toNat 0)):=aL.list (bQ (Kq Iz l1)) NZ
       have gbp:aL C k (DL (st.bare.set i b)) (.int p) (.int (st.bare.getD p.toNat 0)):=by rw[<-eb1];exact L2 NZ Iz
       have N1:aL C k (DL (st.bare.set i b)) (.int i) (.int b):=by have:=L2 (j:=(i:Int)) (Q0) (Su p_);rwa [show(i:Int).toNat=i from rfl,JG] at this
       refine Ex.set (aP.jg (Ev.bin (Ev.bin (Ev.o (.int f) rfl) (Ev.sub (md:=.any) (Ev.p (DL st.full) rfl) rp L3) (ak.mul (iA v4 g1 (KH LZ hE)))|>.up (.inl rfl))
        (Ev.bin (Ev.bin (Ev.sub (md:=.any) (Ev.o (DL numbers) rfl) rp (aL.list (bQ (UW Iz xY)) NZ)) (Ev.sub (md:=.any) (Ev.p (DL (st.bare.set i b)) rfl) rp gbp) (ak.mul (iA g3 g2 (Sv hE)))|>.up (.inl rfl)) (Ev.sub (md:=.any) (Ev.p (DL (st.bare.set i b)) rfl) rk N1) (ak.mul (iA (g3.mul g2) v5 (Wh LZ hE)))|>.up (.inl rfl)) ak.add) rfl) ⟨.inl rfl,ai⟩ ?_
       refine Ex.setItem (ds:=(st.bare.set i b).map D.int) (i:=(i:Int)) rfl (Ev.o (.int i) rfl) (Ev.bin (Ev.sub (md:=.any) (Ev.p (DL (st.bare.set i b)) rfl) (Ev.o (.int i) rfl) N1) (Ev.sub (md:=.any) (Ev.p (DL st.full) rfl) (Ev.o (.int p) rfl) L3) (ak.mul (iA v5 g1 (KH LZ hE)))) rfl (Q0) (by simp;exact Q1 p_ l2) ?_
       refine Ex.set (aP.jg (Ev.bin (Ev.o (.int p) rfl) (Ev.sub (md:=.any) (Ev.o (DL sizes) rfl) (Ev.o (.int p) rfl) (aL.list (bQ Iz) NZ)) ak.add) rfl) ⟨.inl rfl,ai⟩ (Ex.done (.inl ⟨rfl,⟨c+1,f*st.full.getD p.toNat 0+numbers.getD p.toNat 0*st.bare.getD p.toNat 0*b,p+sizes.getD p.toNat 0,b*st.full.getD p.toNat 0⟩,?_,⟨?_,?_,?_,?_,?_⟩,?_⟩))
       · have:=(hs p.toNat Iz).1
         show(e-(p+sizes.getD p.toNat 0)).toNat<(e-p).toNat
         exact Wi this Be
       · have:=(hs p.toNat Iz).1
         show(i:Int)+1+((c+1:Nat):Int)<=p+sizes.getD p.toNat 0
         exact Xb v1 this
       · rw[<-v2]
         conv=>rhs;rw[L1];unfold CN
         rw[af Be]
       · show c+1+i+1<=_;lia
       · refine((v4.mul g1).add ((g3.mul g2).mul v5)).up ?_
         show max _ _+1<=(c+1)*(E+11)+1
         rw[Nat.add_mul c 1]
         exact WU
       · refine(v5.mul g1).up ?_
         show _<=(c+1)*(E+11)+1
         rw[Nat.add_mul c 1]
         exact Ux
       · refine⟨rfl,rfl,rfl,rfl,?_,rfl,rfl,rfl,trivial⟩
         show some (true,D.list (((st.bare.set i b).map D.int).set (i:Int).toNat (.int (b*st.full.getD p.toNat 0))))=some (true,DL (st.bare.set i (b*st.full.getD p.toNat 0)))
         rw[vB]
         show some (true,DL ((st.bare.set i b).set i _))=_
         rw[List.set_set]
     · rintro aq ⟨⟨c,f,p,b⟩,⟨v1,v2,v3,v4,v5⟩,Be,hle⟩
       dsimp only at v1 v2 v3 v4 v5 Be
       refine kM.weak hle ?_
       have hw:CN st.full st.bare numbers sizes e sizes.length 0 (i+1) 1=(f,b):=by
        rw[<-v2]
        cases sizes.length-c with
        |zero=>rfl
        |succ n=>unfold CN;rw[aa Be]
       have JG:(st.bare.set i b).getD i 0=b:=by rw[ig (Q1 p_ l2),af rfl]
       have N1:aL C k (DL (st.bare.set i b)) (.int i) (.int b):=by rw[<-JG];rw[JG];exact aL.list (by have:=bQ (l:=st.bare.set i b) (i:=i) (by simp;exact Q1 p_ l2);rwa [JG] at this) (Q0)
       have LZ:c*(E+11)+1<=1400000:=by
        have:c*(E+11)<=5*(E+11):=lz _ (Sw v3 h6)
        exact Vt this hE
       refine Ex.setItem (ds:=st.full.map D.int) (i:=(i:Int)) rfl (Ev.o (.int i) rfl) (Ev.bin (Ev.bin (Ev.o (.int x) rfl) (Ev.sub (md:=.any) (Ev.p (DL (st.bare.set i b)) rfl) (Ev.o (.int i) rfl) N1) (ak.mul (iA hx v5 (UX LZ)))|>.up (.inl rfl)) (Ev.o (.int f) rfl) ak.sub) rfl (Q0) (by rw[aM];exact T9 p_ l1) (Ex.done (.inl ⟨rfl,?_,?_⟩))
       · have CQ:qA sizes numbers x st i=⟨st.full.set i (x*b-f),st.bare.set i b⟩:=by
          unfold qA
          rw[show CN st.full st.bare numbers sizes (↑i+sizes.getD i 0) sizes.length 0 (↑i+1) 1=(f,b) from hw]
         have Ff:801+(c*(E+11)+1)<=eB (sizes.length-1-i):=by
          cases hm:sizes.length-1-i with
          |zero=>
           have:c=0:=UY v3 hm
           rw[this]
           rw[Nat.zero_mul]
           exact cB rfl
          |succ m=>
           have hE':E=eB m:=by rw[<-hEe];congr 1;exact UZ hm
           show _<=(m+1)*(eB m+11)+803
           rw[<-hE']
           have:c*(E+11)<=(m+1)*(E+11):=lz _ (V0 v3 hm)
           exact SS this
         rw[CQ]
         intro q hq
         by_cases N2:q=i
         · subst N2
           show Bt _ ((st.full.set q _).getD q 0)/\ Bt _ ((st.bare.set q _).getD q 0)
           rw[ig (Q1 p_ l1),af rfl,JG]
           exact⟨((hx.mul v5).sub v4).up (V_ Ff),v5.up (Sx Ff)⟩
         · show Bt _ ((st.full.set i _).getD q 0)/\ Bt _ ((st.bare.set i _).getD q 0)
           rw[ig (Q1 p_ l1),aa N2,ig (Q1 p_ l2),aa N2]
           rcases bB.mp hq with hq|hq
           · exact jW q hq
           · exact absurd (ay.mp hq) N2
       · have CQ:qA sizes numbers x st i=⟨st.full.set i (x*b-f),st.bare.set i b⟩:=by
          unfold qA
          rw[show CN st.full st.bare numbers sizes (↑i+sizes.getD i 0) sizes.length 0 (↑i+1) 1=(f,b) from hw]
         rw[CQ]
         refine⟨rfl,rfl,rfl,?_,rfl,trivial⟩
         show some (true,D.list ((st.full.map D.int).set (i:Int).toNat (.int (x*b-f))))=some (true,DL (st.full.set i (x*b-f)))
         rw[vB];rfl
   · refine kM.weak hle ?_
     obtain⟨l1,l2⟩:=ug sizes numbers x (List.range sizes.length).reverse
     exact Ex.ret (md:=.any) (Ev.sub (Ev.p (DL (jq sizes numbers x (List.range sizes.length).reverse).full) rfl) Ev.aG (aL.list (bQ (by rw[l1];lia)) (by decide))) (.inl rfl) (.inl rfl)
section
variable{C:Cx}{sc:Scope}{ro:List Str}{k:Nat}{σ:Sg}{P:Sg->Fl->Prop}{A:Around}{env:Env}{h₀:Heap}{own:Ow}{s s' bD:Shared}
theorem tK{prog:Program}{w:World}{E:Value->Shared->Prop}{l:Addr}{vs:Array Value}{i:Int}{t:Tok}{v:Value}{Q:Unit->Shared->Prop}(hl:PlainL s.heap l vs)(h0:i<0)(hn: -(vs.size:Int)<=i)(hsz:vs.size<=sizeLine)
 (hQ: ∀h',PlainL h' l (vs.setIfInBounds (i+vs.size).toNat v)->Heap.SameBut l s.heap h'->Q () {s with heap:=h'}):wpAny (model prog w) A (PySem.setItem (.ref l) (.int i t) v) Q E s:=by
 refine bk λG hG=>?_
 obtain⟨o,n,ho,hc,AM,hd⟩:=id hl
 refine hG ?_;clear hG G
 have EU:=hl.isList.typeIs
 have aF:sizeLine=16777216:=rfl
 unfold PySem.setItem
 try with_reducible refine dZ ?_
 first|refine ao (aJ ?_)|skip
 refine ao (wpAny_sequenceKey EU (by decide) ?_)
 refine ao (wpAny_callSpecial?_slot (name:=Str.ofString "__setitem__") EU slot_list_setitem (wpAny_call_entry slot_list_setitem EU entry_list_setitem ?_ (args_list_setitem _ _ _)))
 show wpAny _ _ (Builtin.List.listSubscript? (.int i t)>>=_) _ _ s
 refine ao (wpAny_listSubscript_int (fitsIndex_neg h0 (V3 hn aF hsz)) ?_)
 have Yj:=seqIndex_neg h0 hn
 have hj:(i+vs.size).toNat<vs.size:=VV hn h0
 have hx:vs[(i+vs.size).toNat]? =some vs[(i+vs.size).toNat]:=zl hj
 generalize hje:(i+vs.size).toNat=jj at*
 obtain⟨j,rfl⟩: ∃j:Nat,i=Int.negSucc j:=by
  cases i with
  |ofNat n=>exact absurd h0 (Int.not_lt.mpr (bR n))
  |negSucc n=>exact⟨n,rfl⟩
 show wpAny _ _ ((Builtin.List.listItems (.ref l)>>=λxs=>pure ((seqIndex? (Int.negSucc j) xs.size).bind λi=>xs[i]?.map (i,·)))>>=_) _ _ s
 refine ao (ao ?_)
 show wpAny _ _ (seqItems? (.ref l)>>=_) _ _ s
 refine ao (wpAny_seqItems ho hd (aJ (aJ ?_)))
 rw[Yj]
 simp only[Option.bind_some,hx,pM]
 refine ao (wpAny_setSeqItemAt ho hd ?_)
 have fin:=hQ _ (PlainL.turn (·.setIfInBounds jj v) hl) (Heap.SameBut.update ..)
 exact ao (aJ (aJ ⟨.none,rfl,aJ fin⟩))
theorem Ex.nB{x:Str}{px ps pos:Pos}{ie e:Expr}{rest:List Stmt}{ds:List D}{d:D}{i:Int}{j:Nat}{md:Md}(hx:σ.get x=some (true,.list ds))(hi:Ev C sc ro k σ ie .any (.int i))(he:Ev C sc ro k σ e md d)(hm:d.sc=true)
 (hj:j<ds.length) (IA:i=j \/i=(j:Int)-ds.length) (hr:Ex C sc ro k (σ.set x true (.list (ds.set j d))) rest P)
 (hs: ∀env,env.scope=sc->swapsWith e (some (.Subscript (.Name x px) ie ps)) pos.line env=pure false:=by intro env h;cases env;cases h;rfl) (vZ:autoParam ((x==("__debug__" :Str))=false) au):
 Ex C sc ro k σ (.Assign [.Subscript (.Name x px) ie ps] e pos::rest) P:=by
 by_cases h0:0<=i
 · have:i.toNat=j:=KS IA h0 hj
   refine Ex.setItem hx hi he hm h0 (Uy this hj) ?_ hs vZ
   rw[this];exact hr
 refine Ex.one (R:=λaq=>aq=σ.set x true (.list (ds.set j d))) ?_ λaq e=>e▸hr
 intro A env h₀ own s Q r S q
 refine wpAny_Assign_Subscript (he A env h₀ own s _ r S λw ah az rp=>?_) (hs env S.scope)
 have bE:=S.cX az
 refine bk λG hG=>?_
 obtain⟨v,va,a,vs,ds',rfl,h1,kh,e3,h2,h3,h4⟩:=bE.vars x _ _ hx
 refine hG ?_;clear hG G
 injection e3 with e3;subst e3
 have hlen:=h4.length
 refine nX bE va vZ (hi A env h₀ own ah _ r bE λiv aE a₂ ri=>?_)
 obtain⟨t,rfl⟩:=ri
 have bK:=bE.cX a₂
 have nO:PlainL aE.heap a vs:=h2.keeps λb o e=>a₂.get e
 have lV:=va.mono (h':=aE.heap) λb o e=>a₂.get e
 have K8:aU C.wc aE.heap (λb=>b∉own.av) vs.toList ds:=h4.mono (λ_ p=>p) λb o _ e=>a₂.get e
 have hsz:vs.size=ds.length:=by rw[<-hlen];simp
 have hjn:(i+vs.size).toNat=j:=Xl IA hsz h0
 refine tK nO (ZP h0) (WV IA hsz) h3 λh' pQ nY=>?_
 rw[hjn] at pQ
 have aY:=az.trans a₂
 have dX:=bK.uR (t:=aE.toks) hx lV h1 nO nY pQ (by simpa using h3) (ds':=ds.set j d) (by
  rw[Array.toList_setIfInBounds]
  exact aU.set K8 (rp.dH hm))
 exact q .next .next _ _ own ⟨λb o hb e=>(nY.2 b λz=>hb (z▸h1)).trans (aY.get e),aY.os,aY.gens⟩ (λb hb _=>hb) (λb hb=>.inl hb) dX rfl (.inl ⟨rfl,rfl⟩)
theorem aL.qY{ds:List D}{i:Int}{j:Nat}{d:D}(hd:ds[j]? =some d)(IA:i=j \/i=(j:Int)-ds.length):aL C k (.list ds) (.int i) d:=by
 obtain⟨hj,_⟩:=iW.mp hd
 by_cases h0:0<=i
 · have:i.toNat=j:=KS IA h0 hj
   exact aL.list (by rw[this];exact hd) h0
 · have:(i+ds.length).toNat=j:=Xg IA h0
   exact aL.uS (by rw[this];exact hd) (ZP h0) (WA IA)
end
structure vC where
 bY:List Int
 bI:List Int
 held:List Bool
 c0:Int
 c1:Int
 c2:Int
noncomputable def dB(u:Int)(n:Nat):Nat:=(if u<0 then u+n else u).toNat
noncomputable def aW(x:Int):Int:=if 0<x then 1 else if x<0 then-1 else 0
noncomputable def fq(over numbers:List Int)(st:vC)(k:Nat):vC:=
 if st.held.getD k false=true then{st with c0:=st.c0+1,c1:=st.c1-1,c2:=st.c2+1}
 else if aW (st.bY.getD k 0)=0 then{st with c1:=st.c1+1,held:=st.held.set (dB (over.getD k 0) numbers.length) true}
 else{st with
  c0:=if aW (st.bY.getD k 0)= -1 then st.c0+1 else st.c0
  c2:=if aW (st.bY.getD k 0)=1 then st.c2+1 else st.c2
  bY:=st.bY.set (dB (over.getD k 0) numbers.length) (aW (st.bY.getD k 0)*(st.bY.getD (dB (over.getD k 0) numbers.length) 0*st.bY.getD k 0-numbers.getD k 0*st.bI.getD k 0*st.bI.getD (dB (over.getD k 0) numbers.length) 0))
  bI:=st.bI.set (dB (over.getD k 0) numbers.length) (aW (st.bY.getD k 0)*st.bI.getD (dB (over.getD k 0) numbers.length) 0*st.bY.getD k 0)}
noncomputable def lH(over numbers:List Int)(place:Int)(l:List Nat):vC:=l.foldl (fq over numbers) ⟨numbers.map λ_=> -place,numbers.map λ_=>1,numbers.map λ_=>false,0,0,0⟩
noncomputable def ir(over numbers:List Int)(place:Int):List Int:=
 [(lH over numbers place (List.range over.length).reverse).c0,(lH over numbers place (List.range over.length).reverse).c1,(lH over numbers place (List.range over.length).reverse).c2]
noncomputable def pB:Nat->Nat
 |0=>10
 |j+1=>2*pB j+14
theorem Fg{m n:Nat}(h:m<=n):pB m<=pB n:=by
 induction h with
 |refl=>exact aR _
 |step h ih=>exact aX ih (by show _<=2*pB _+14;exact ZZ)
theorem sq(x:Int):Bt 1 (aW x):=by
 unfold aW
 split
 · exact cB rfl
 · split<;>exact cB rfl
theorem sr(over numbers:List Int)(place:Int)(l:List Nat)(k:Nat):lH over numbers place (l++[k])=fq over numbers (lH over numbers place l) k:=by
 unfold lH;rw[eE];rfl
structure Fi(n B:Nat)(st:vC):Prop where
 l1:st.bY.length=n
 l2:st.bI.length=n
 l3:st.held.length=n
 b1: ∀j,Bt B (st.bY.getD j 0)
 b2: ∀j,Bt B (st.bI.getD j 0)
theorem Bt.zero{e:Nat}:Bt e 0:=by show Builtin.Int.intBits 0<=e;exact aX (cB rfl:_<=0) (gi _)
theorem uh{l:List Int}{k j:Nat}{v:Int}:(l.set k v).getD j 0=if j=k/\ k<l.length then v else l.getD j 0:=by
 by_cases h:k<l.length
 · rw[ig h];simp[h]
 · rw[List.set_eq_of_length_le (P0 h)];simp[h]
theorem Fi.step{n B:Nat}{st:vC}{over numbers:List Int}{k:Nat}(h:Fi n B st)(hn:Bt 10 (numbers.getD k 0)):Fi n (2*B+14) (fq over numbers st k):=by
 obtain⟨l1,l2,l3,b1,b2⟩:=h
 have up: ∀{a:Int},Bt B a->Bt (2*B+14) a:=λh=>h.up (ZZ)
 unfold fq
 split
 · exact⟨l1,l2,l3,λj=>up (b1 j),λj=>up (b2 j)⟩
 · split
   · exact⟨l1,l2,by rw[List.length_set];exact l3,λj=>up (b1 j),λj=>up (b2 j)⟩
   · refine⟨by rw[List.length_set];exact l1,by rw[List.length_set];exact l2,l3,λj=>?_,λj=>?_⟩
     · dsimp only
       rw[uh]
       split
       · exact((sq _).mul (((b1 _).mul (b1 _)).sub ((hn.mul (b2 _)).mul (b2 _)))).up (V5)
       · exact up (b1 j)
     · dsimp only
       rw[uh]
       split
       · exact(((sq _).mul (b2 _)).mul (b1 _)).up (RT)
       · exact up (b2 j)
theorem CR{over numbers:List Int}{place:Int}(hp:Bt 10 place)(hn: ∀j,Bt 10 (numbers.getD j 0))(l:List Nat):Fi numbers.length (pB l.length) (lH over numbers place l):=by
 generalize hm:l.length=m
 induction m generalizing l with
 |zero=>
  have:l=[]:=gh hm
  subst this
  have gen: ∀(c:Int),Bt 10 c-> ∀j,Bt 10 ((numbers.map λ_=>c).getD j 0):=λc hc j=>by
   rw[bM,cM]
   cases numbers[j]? with
   |none=>exact Bt.zero
   |some x=>exact hc
  exact⟨aM _,aM _,aM _,gen _ (intBits_neg_le hp),gen _ (cB rfl)⟩
 |succ m ih=>
  obtain⟨l',ch,rfl⟩: ∃l' ch,l=l'++[ch]:=⟨l.dropLast,l.getLast (by intro e;rw[e] at hm;cases hm),(iV _).symm⟩
  have zv:l'.length=m:=by simpa using hm
  rw[sr]
  exact(ih l' zv).step (hn ch)
noncomputable abbrev DB(l:List Bool):D:=.list (l.map .bool)
theorem IB{l:List Bool}{i:Nat}(h:i<l.length):(l.map D.bool)[i]? =some (.bool (l.getD i false)):=by
 simp only[cM,cE h]
 simp[h]
theorem IC{l:List Bool}{k:Nat}{v:Bool}:(l.map D.bool).set k (.bool v)=(l.set k v).map D.bool:=by rw[List.map_set]
noncomputable def CS(over numbers:List Int)(place:Int)(st:vC):Sg:=
 [("over",false,DL over),("numbers",false,DL numbers),("place",false,.int place),("tops",true,DL st.bY),("unders",true,DL st.bI),("held",true,DB st.held),("counts",true,DL [st.c0,st.c1,st.c2])]
theorem CT{C:Cx}{a:Addr}{k:Nat}{over numbers:List Int}{place:Int}(hf:bu C 77 a)(hlen:bT C "len" (.builtin "len"))(yz:bT C "range" (.type "range"))
 (hl:over.length=numbers.length) (h6:numbers.length=6) (ho: ∀j,j<6->dB (over.getD j 0) 6<6/\ dB (over.getD j 0) 6≠j/\ (over.getD j 0=dB (over.getD j 0) 6 \/over.getD j 0=(dB (over.getD j 0) 6:Int)-6))
 (hp:Bt 10 place) (hn: ∀j,Bt 10 (numbers.getD j 0)):
 Fn C (k+1) (.ref a) [DL over,DL numbers,.int place] (DL (ir over numbers place)):=by
 refine Fn.cells hf.2 ?_ rfl (by decide) ?_ ?_ ?_ rfl rfl rfl
 · intro pm cd doc vs hl
   obtain⟨u,v,w,rfl⟩:=BZ hl
   rfl
 · decide
 · decide
 · have aF:sizeLine=16777216:=rfl
   have CO:(numbers.map D.int).length=numbers.length:=aM _
   have hol:(over.map D.int).length=over.length:=aM _
   refine Ex.gv (items:=numbers.map D.int) (g:=fZ λ_=>.int (-place)) true (cC.name (aN.list (Ev.name rfl) (bA _)) (bA _) ⟨⟨_,_,rfl,.inl rfl⟩,trivial⟩ (λd hd=>?_) (ON aF h6 CO)) ⟨.inl rfl,ai⟩ ?_
   · obtain⟨i,_,rfl⟩:=aQ.mp hd
     exact⟨.inl rfl,Ev.un (Ev.o _ rfl) iE.neg⟩
   rw[mapConst]
   refine Ex.gv (items:=numbers.map D.int) (g:=fZ λ_=>.int 1) true (cC.name (aN.list (Ev.name rfl) (bA _)) (bA _) trivial (λd hd=>?_) (ON aF h6 CO)) ⟨.inl rfl,ai⟩ ?_
   · obtain⟨i,_,rfl⟩:=aQ.mp hd
     exact⟨.inl rfl,Ev.aG⟩
   rw[mapConst]
   refine Ex.gv (items:=numbers.map D.int) (g:=fZ λ_=>.bool false) true (cC.name (aN.list (Ev.name rfl) (bA _)) (bA _) trivial (λd hd=>?_) (ON aF h6 CO)) ⟨.inl rfl,ai⟩ ?_
   · obtain⟨i,_,rfl⟩:=aQ.mp hd
     exact⟨.inl rfl,Ev.gB⟩
   have eb:(numbers.map D.int).filterMap (fZ λ_=>.bool false)=(numbers.map λ_=>false).map D.bool:=by simp only[dO,cN];rfl
   rw[eb]
   refine Ex.set (aP.own (Ev.list (ds:=[.int 0,.int 0,.int 0]) (md:=.fresh) (Ar.cons Ev.aG (Ar.cons Ev.aG (Ar.cons Ev.aG Ar.nil))) (by decide))) ⟨.inl rfl,ai⟩ ?_
   refine Ex.loop (items:=(List.range over.length).reverse) (λ(i:Nat)=>D.int i) (λdone=>CS over numbers place (lH over numbers place done)) (Le (CS over numbers place (lH over numbers place (List.range over.length).reverse)))
    (aN.call (ds:=[.int ((over.length:Int)-1),.int (-1),.int (-1)]) (aK.blt rfl yz) (Ar.cons (by rw[<-hol];exact Ev.bin (Ev.call (ds:=[DL over]) (aK.blt rfl hlen) (Ar.cons (Ev.o _ rfl) Ar.nil) aA.blt Fn.gm|>.up (.inl rfl)) Ev.aG ak.sub|>.up (.inl rfl))
      (Ar.cons (Ev.un Ev.aG iE.neg|>.up (.inl rfl)) (Ar.cons (Ev.un Ev.aG iE.neg|>.up (.inl rfl)) Ar.nil))) aA.typ (ee.ue (Ro h6 hl)))
    (λ_ _=>rfl) ⟨.inl rfl,ai⟩ ⟨rfl,rfl,rfl,rfl,rfl,rfl,rfl,trivial⟩ ?_ (λaq h=>h) λaq hle=>kM.weak hle (Ex.mU rfl (bA _) (.inl rfl))
   intro done i left hi
   obtain⟨p_,qx,CP⟩:=lG hi
   have mq:done.length<=6:=by
    have:=congrArg List.length hi
    simp at this;exact Uz this h6 hl
   have OK:=CR (over:=over) hp hn done
   rw[sr]
   have hB:pB done.length<=1522:=aX (Fg mq) (by decide)
   refine bk λG hG=>?_
   obtain⟨l1,l2,l3,b1,b2⟩:=OK
   obtain⟨u1,u2,u3⟩:=ho i (RU p_ h6 hl)
   refine hG ?_;clear hG G
   have N3:dB (over.getD i 0) numbers.length=dB (over.getD i 0) 6:=by rw[h6]
   generalize lH over numbers place done=st at*
   generalize hue:dB (over.getD i 0) 6=u at*
   generalize ID:over.getD i 0=ov at*
   generalize pB done.length=B at*
   have rk: ∀{σ:Sg} {pos:Pos} {f:Bool},σ.get "k" =some (f,.int i)->Ev C (fScope (bW 77)) [] k σ (.Name "k" pos) .any (.int i):=Ev.own
   refine Ex.set (d:=.int ov) (aP.jg (md:=.any) (Ev.sub (Ev.o (DL over) rfl) (Ev.o (.int i) rfl) (by rw[<-ID];exact aL.list (bQ p_) (Q0))) rfl) ⟨.inl rfl,ai⟩ ?_
   have gt:aL C k (DL st.bY) (.int i) (.int (st.bY.getD i 0)):=aL.list (bQ (OP p_ l1 hl)) (Q0)
   refine Ex.set (d:=.int (aW (st.bY.getD i 0))) (aP.jg (md:=.any) (Ev.Gr (b:=decide (0<st.bY.getD i 0)) (Te.cmp (Ev.sub (md:=.any) (Ev.p (DL st.bY) rfl) (Ev.o (.int i) rfl) gt) Ev.aG aH.gt) (λhb=>?_) λhb=>?_) rfl) ⟨.inl rfl,ai⟩ ?_
   · have:aW (st.bY.getD i 0)=1:=by unfold aW;rw[af (of_decide_eq_true hb)]
     rw[this];exact Ev.aG
   · refine Ev.Gr (b:=decide (st.bY.getD i 0<0)) (Te.cmp (Ev.sub (md:=.any) (Ev.p (DL st.bY) rfl) (Ev.o (.int i) rfl) gt) Ev.aG aH.lt) (λpT=>?_) λpT=>?_
     · have:aW (st.bY.getD i 0)= -1:=by unfold aW;rw[aa (by simpa using hb),af (of_decide_eq_true pT)]
       rw[this];exact Ev.un Ev.aG iE.neg|>.up (.inl rfl)
     · have:aW (st.bY.getD i 0)=0:=by unfold aW;rw[aa (by simpa using hb),aa (by simpa using pT)]
       rw[this];exact Ev.aG
   have gc: ∀{c:Int} {j:Nat},([st.c0,st.c1,st.c2].map D.int)[j]? =some (.int c)->aL C k (DL [st.c0,st.c1,st.c2]) (.int j) (.int c):=λh=>aL.list h (Q0)
   refine Ex.one (R:=Sub (CS over numbers place (fq over numbers st i))) (cH.ite (b:=st.held.getD i false) (Te.ofBool (Ev.sub (md:=.any) (Ev.p (DB st.held) rfl) (Ev.o (.int i) rfl) (aL.list (IB (OP p_ l3 hl)) (Q0)))) (λhb=>?_) λhb=>?_) λaq h=>Ex.done h
   · have hs:fq over numbers st i={st with c0:=st.c0+1,c1:=st.c1-1,c2:=st.c2+1}:=by unfold fq;rw[af hb]
     rw[hs]
     refine Ex.set (f:=true) (d:=DL [st.c0+1,st.c1-1,st.c2+1]) (aP.own (Ev.list (ds:=[.int (st.c0+1),.int (st.c1-1),.int (st.c2+1)]) (md:=.fresh)
      (Ar.cons (Ev.bin (Ev.sub (md:=.any) (Ev.p (DL [st.c0,st.c1,st.c2]) rfl) Ev.aG (gc (j:=0) rfl)) Ev.aG ak.add)
      (Ar.cons (Ev.bin (Ev.sub (md:=.any) (Ev.p (DL [st.c0,st.c1,st.c2]) rfl) Ev.aG (gc (j:=1) rfl)) Ev.aG ak.sub)
      (Ar.cons (Ev.bin (Ev.sub (md:=.any) (Ev.p (DL [st.c0,st.c1,st.c2]) rfl) Ev.aG (gc (j:=2) rfl)) Ev.aG ak.add) Ar.nil))) (cB rfl)))
      ⟨.inl rfl,ai⟩ (Ex.done (.inl ⟨rfl,rfl,rfl,rfl,rfl,rfl,rfl,rfl,trivial⟩))
   · have pT: ¬st.held.getD i false=true:=by rw[hb];decide
     refine Ex.one (R:=Sub (CS over numbers place (fq over numbers st i))) (cH.ite (b:=aW (st.bY.getD i 0)==0) (Te.cmp (Ev.o _ rfl) Ev.aG aH.eq) (λhz=>?_) λhz=>?_) λaq h=>Ex.done (.inl ⟨rfl,h⟩)
     · have qZ:aW (st.bY.getD i 0)=0:=of_decide_eq_true hz
       have hs:fq over numbers st i={st with c1:=st.c1+1,held:=st.held.set u true}:=by unfold fq;rw[aa pT,af qZ,ID,N3]
       rw[hs]
       refine Ex.setItem (ds:=[.int st.c0,.int st.c1,.int st.c2]) (i:=1) rfl Ev.aG (Ev.bin (Ev.sub (md:=.any) (Ev.p (DL [st.c0,st.c1,st.c2]) rfl) Ev.aG (gc (j:=1) rfl)) Ev.aG ak.add) rfl (by decide) (by show(1:Int)<3;decide) ?_
       refine Ex.nB (ds:=st.held.map D.bool) (i:=ov) (j:=u) (md:=.any) rfl (Ev.o _ rfl) Ev.gB rfl (by rw[aM];exact Q7 u1 h6 l3) (by rw[aM];exact J3 u3 h6 l3) (Ex.done (.inl ⟨rfl,rfl,rfl,rfl,rfl,rfl,?_,rfl,trivial⟩))
       show some (true,D.list ((st.held.map D.bool).set u (.bool true)))=some (true,DB (st.held.set u true))
       rw[IC]
     · have qZ: ¬aW (st.bY.getD i 0)=0:=by simpa using hz
       have hs:fq over numbers st i={st with
        c0:=if aW (st.bY.getD i 0)= -1 then st.c0+1 else st.c0
        c2:=if aW (st.bY.getD i 0)=1 then st.c2+1 else st.c2
        bY:=st.bY.set u (aW (st.bY.getD i 0)*(st.bY.getD u 0*st.bY.getD i 0-numbers.getD i 0*st.bI.getD i 0*st.bI.getD u 0))
        bI:=st.bI.set u (aW (st.bY.getD i 0)*st.bI.getD u 0*st.bY.getD i 0)}:=by
        unfold fq;rw[aa pT,aa qZ,ID,N3]
       rw[hs]
       have IE:=sq (st.bY.getD i 0)
       have hsv:aW (st.bY.getD i 0)=1 \/aW (st.bY.getD i 0)= -1:=by
        unfold aW at qZ ⊢
        split
        · exact .inl rfl
        · rw[aa (by assumption)] at qZ
          split
          · exact .inr rfl
          · rw[aa (by assumption)] at qZ;exact absurd rfl qZ
       generalize aW (st.bY.getD i 0)=sg at*
       have q1:=b1 i
       have q2:=b1 u
       have q3:=b2 i
       have q4:=b2 u
       have q5:=hn i
       have gu:aL C k (DL st.bI) (.int i) (.int (st.bI.getD i 0)):=aL.list (bQ (OP p_ l2 hl)) (Q0)
       have gun:aL C k (DL st.bI) (.int ov) (.int (st.bI.getD u 0)):=aL.qY (bQ (Q7 u1 h6 l2)) (by rw[aM];exact J3 u3 h6 l2)
       have gtn:aL C k (DL st.bY) (.int ov) (.int (st.bY.getD u 0)):=aL.qY (bQ (Q7 u1 h6 l1)) (by rw[aM];exact J3 u3 h6 l1)
       have Yk:aL C k (DL (st.bY.set u (sg*(st.bY.getD u 0*st.bY.getD i 0-numbers.getD i 0*st.bI.getD i 0*st.bI.getD u 0)))) (.int i) (.int (st.bY.getD i 0)):=by
        have:=bQ (l:=st.bY.set u (sg*(st.bY.getD u 0*st.bY.getD i 0-numbers.getD i 0*st.bI.getD i 0*st.bI.getD u 0))) (i:=i) (by simp;exact SV p_ l1 hl)
        rw[ig (Q7 u1 h6 l1),aa (λe=>u2 e.symm)] at this
        exact aL.list this (Q0)
       have fin: ∀c0 c2:Int,Ex C (fScope (bW 77)) [] k
        [("over",false,DL over),("numbers",false,DL numbers),("place",false,.int place),("tops",true,DL st.bY),("unders",true,DL st.bI),("held",true,DB st.held),("counts",true,DL [c0,st.c1,c2]),("k",false,.int i),("up",false,.int ov),("sign",false,.int sg)]
        ((Cu ((Cu ((fBody ((fBody (bW 77)).getD 4 (.Pass default))).getD 2 (.Pass default))).getD 0 (.Pass default))).drop 1)
        λaq fl=>fl= .next/\ Sub (CS over numbers place {st with
         c0:=c0
         c2:=c2
         bY:=st.bY.set u (sg*(st.bY.getD u 0*st.bY.getD i 0-numbers.getD i 0*st.bI.getD i 0*st.bI.getD u 0))
         bI:=st.bI.set u (sg*st.bI.getD u 0*st.bY.getD i 0)}) aq:=λc0 c2=>by
        refine Ex.nB (ds:=st.bY.map D.int) (i:=ov) (j:=u) rfl (Ev.o _ rfl) (Ev.bin (Ev.o (.int sg) rfl) (Ev.bin (Ev.bin (Ev.sub (md:=.any) (Ev.p (DL st.bY) rfl) (Ev.o (.int ov) rfl) gtn) (Ev.sub (md:=.any) (Ev.p (DL st.bY) rfl) (Ev.o (.int i) rfl) gt) (ak.mul (iA q2 q1 (Sa hB)))|>.up (.inl rfl))
         (Ev.bin (Ev.bin (Ev.sub (md:=.any) (Ev.o (DL numbers) rfl) (Ev.o (.int i) rfl) (aL.list (bQ (UA p_ hl)) (Q0))) (Ev.sub (md:=.any) (Ev.p (DL st.bI) rfl) (Ev.o (.int i) rfl) gu) (ak.mul (iA q5 q3 (RV hB)))|>.up (.inl rfl)) (Ev.sub (md:=.any) (Ev.p (DL st.bI) rfl) (Ev.o (.int ov) rfl) gun) (ak.mul (iA (q5.mul q3) q4 (TG hB)))|>.up (.inl rfl)) ak.sub|>.up (.inl rfl)) (ak.mul (iA IE ((q2.mul q1).sub ((q5.mul q3).mul q4)) (Wx hB)))) rfl
         (by rw[aM];exact Q7 u1 h6 l1) (by rw[aM];exact J3 u3 h6 l1) ?_
        rw[vB]
        refine Ex.nB (ds:=st.bI.map D.int) (i:=ov) (j:=u) rfl (Ev.o (.int ov) rfl) (Ev.bin (Ev.bin (Ev.o (.int sg) rfl) (Ev.sub (md:=.any) (Ev.p (DL st.bI) rfl) (Ev.o (.int ov) rfl) gun) (ak.mul (iA IE q4 (RE hB)))|>.up (.inl rfl))
         (Ev.sub (md:=.any) (Ev.p (DL (st.bY.set u (sg*(st.bY.getD u 0*st.bY.getD i 0-numbers.getD i 0*st.bI.getD i 0*st.bI.getD u 0)))) rfl) (Ev.o (.int i) rfl) Yk) (ak.mul (iA (IE.mul q4) q1 (Tc hB)))) rfl
         (by rw[aM];exact Q7 u1 h6 l2) (by rw[aM];exact J3 u3 h6 l2) ?_
        rw[vB]
        exact Ex.done ⟨rfl,rfl,rfl,rfl,rfl,rfl,rfl,rfl,trivial⟩
       rcases hsv with rfl|rfl
       · rw[aa (by decide),af rfl]
         refine Ex.setItem (ds:=[.int st.c0,.int st.c1,.int st.c2]) (i:=2) rfl (Ev.bin Ev.aG (Ev.o (.int 1) rfl) ak.add|>.up (.inl rfl)) (Ev.bin (Ev.sub (md:=.any) (Ev.p (DL [st.c0,st.c1,st.c2]) rfl) (Ev.bin Ev.aG (Ev.o (.int 1) rfl) ak.add|>.up (.inl rfl)) (show aL C k (DL [st.c0,st.c1,st.c2]) (.int (1+1)) (.int st.c2) from gc (j:=2) rfl)) Ev.aG ak.add) rfl (by decide) (by show(2:Int)<3;decide) ?_
         have F:=fin st.c0 (st.c2+1)
         refine kM.weak (Sub.le ?_) (F.mono λaq f h=>.inl h)
         exact⟨rfl,rfl,rfl,rfl,rfl,rfl,rfl,rfl,rfl,rfl,trivial⟩
       · rw[af rfl,aa (by decide)]
         refine Ex.setItem (ds:=[.int st.c0,.int st.c1,.int st.c2]) (i:=0) rfl (Ev.bin Ev.aG (Ev.o (.int (-1)) rfl) ak.add|>.up (.inl rfl)) (Ev.bin (Ev.sub (md:=.any) (Ev.p (DL [st.c0,st.c1,st.c2]) rfl) (Ev.bin Ev.aG (Ev.o (.int (-1)) rfl) ak.add|>.up (.inl rfl)) (show aL C k (DL [st.c0,st.c1,st.c2]) (.int (1+ -1)) (.int st.c0) from gc (j:=0) rfl)) Ev.aG ak.add) rfl (by decide) (by show(0:Int)<3;decide) ?_
         have F:=fin (st.c0+1) st.c2
         refine kM.weak (Sub.le ?_) (F.mono λaq f h=>.inl h)
         exact⟨rfl,rfl,rfl,rfl,rfl,rfl,rfl,rfl,rfl,rfl,trivial⟩
end Mine
end
section
open PySem PySem.W PyProof.Rows PySem.Challenge PySem.Spec
open Builtin Builtin.Str
namespace Mine
noncomputable def cS:Expr->Str
 | .Constant (.str s) _ _=>s
 |_=>""
noncomputable def tL:Str:=cS (Cs ((fBody (bW 70)).getD 0 (.Pass default)))
noncomputable def oA:Str:=cS ((H9 ((H9 ((H9 (Cs ((fBody (bW 70)).getD 1 (.Pass default)))).getD 0 default)).getD 0 default)).getD 1 default)
noncomputable def qa:List Str:=Txt.split (tL++oA) " "
noncomputable def wordOf(n:Int):Str:=qa.getD (n-7).toNat ""
theorem IF:tL.length<=200/\ oA.length<=200:=by decide+kernel
theorem yC:(partsBetween (tL++oA) (occurrences (tL++oA) " " 0 (tL++oA).length ((tL++oA).length+1)) (Str.ofString " ").length).length<=sizeLine:=by decide+kernel
theorem CU:qa.length=48:=by decide+kernel
theorem Fj{C:Cx}{a:Addr}{k:Nat}{numbers:List Int}(hf:bu C 70 a)(hn: ∀n∈numbers,7<=n/\ n<=54)(hl:numbers.length<=1000):
 Fn C (k+1) (.ref a) [DL numbers] (.list ((numbers.map wordOf).map D.str)):=by
 refine Fn.cells hf.2 ?_ rfl (by decide) ?_ ?_ ?_ rfl rfl rfl
 · intro pm cd doc vs hl
   obtain⟨v,rfl⟩:=tB hl
   rfl
 · decide
 · decide
 · have aF:sizeLine=16777216:=rfl
   have h1:=IF
   refine Ex.set (d:=.str tL) (aP.jg (md:=.any) (Ev.iB (by have:=h1.1;show tL.length<=_;exact Q98 aF h1.1)) rfl) ⟨.inl rfl,ai⟩ ?_
   refine Ex.set (f:=false) (d:=.list (qa.map D.str)) (aP.fresh (Ev.split (x:=tL++oA) (y:=" ") (Ev.bin (Ev.o (.str tL) rfl) (Ev.iB (x:=oA) (by have:=h1.2;show oA.length<=_;exact Q98 aF h1.2)) (ak.gM (Vm aF h1.1 h1.2))|>.up (.inl rfl)) (Ev.iB (by decide)) rfl yC)) ⟨.inr rfl,ai⟩ ?_
   have e:(numbers.map wordOf).map D.str=(numbers.map D.int).filterMap (fZ λn=>.str (wordOf n)):=by simp only[dO,cN];rfl
   rw[e]
   refine Ex.ret (md:=.fresh) (Ev.comp (cC.name (aN.list (Ev.name rfl) (bA _)) (bA _) ⟨⟨_,_,rfl,.inl rfl⟩,trivial⟩ (λd hd=>?_) (by rw[aM];exact OJ aF hl))) (.inr rfl) (.inl rfl)
   obtain⟨n,uc,rfl⟩:=aQ.mp hd
   have hb:=hn n uc
   have jP:(n-7).toNat<qa.length:=by rw[CU];exact Q34 hb.2
   refine⟨.inl rfl,Ev.sub (md:=.any) (Ev.o (.list (qa.map D.str)) rfl) (Ev.bin (Ev.o (.int n) rfl) Ev.aG ak.sub|>.up (.inl rfl)) (aL.list (i:=n-7) (d:=.str (wordOf n)) ?_ (Po hb.1))|>.up (.inl rfl)⟩
   simp only[cM,cE jP]
   unfold wordOf
   simp[jP]
noncomputable def sA(T:List (PyData×PyData))(x:Str):Option Int:=match lookup (.str x) T with
 |some (.int i)=>some i
 |_=>none
noncomputable def numAt(T:List (PyData×PyData))(x:Str)(place size:Int):Option Int:=sA T (Txt.slice x (some place) (some (place+size)))
noncomputable def numberOf(T:List (PyData×PyData))(x:Str)(place:Int):Int:=
 match numAt T x place 3,numAt T x place 2,numAt T x place 1 with
 |some i,_,_=>i
 |none,some i,_=>i
 |none,none,some i=>i
 |none,none,none=>0
noncomputable def vD(T:List (PyData×PyData)):Prop:=∀x v,lookup (.str x) T=some v-> ∃i,v= .int i
theorem wX{C:Cx}{a d:Addr}{k:Nat}{x:Str}{place:Int}{T:List (PyData×PyData)}(hf:bu C 74 a)(hg:jT C "EXACT_TOKEN_TYPES" (.addr d))(hT:zF C d T)(hi:vD T)(hx:x.length<=1000):
 Fn C (k+1) (.ref a) [.str x,.int place] (.int (numberOf T x place)):=by
 refine Fn.plain hf.2 ?_ rfl (by decide) ?_ ?_ ?_ ?_ rfl rfl rfl
 · intro pm cd doc vs hl
   obtain⟨v,w,rfl⟩:=mS hl
   rfl
 · decide
 · decide
 · decide
 · have sj: ∀size,(lookup (.str (Txt.slice x (some place) (some (place+size)))) T).isSome=(numAt T x place size).isSome:=λsize=>by
    delta numAt sA
    cases h:lookup (.str (Txt.slice x (some place) (some (place+size)))) T with
    |none=>rfl
    |some v=>
     obtain⟨i,rfl⟩:=hi _ _ h
     rfl
   have Iv: ∀size i,numAt T x place size=some i->lookup (.str (Txt.slice x (some place) (some (place+size)))) T=some (.int i):=λsize i h=>by
    unfold numAt sA at h
    cases q:lookup (.str (Txt.slice x (some place) (some (place+size)))) T with
    |none=>rw[q] at h;cases h
    |some v=>
     obtain⟨j,rfl⟩:=hi _ _ q
     rw[q] at h;injection h with h;subst h;rfl
   have sl: ∀{σ:Sg} {size:Int} {pos Yl p1 p2 p3 p4 p5:Pos},σ.get "text" =some (false,.str x)->σ.get "place" =some (false,.int place)->σ.get "size" =some (false,.int size)->
    Ev C (fScope (bW 74)) [] k σ (.Subscript (.Name "text" p1) (.Slice (some (.Name "place" p2)) (some (.BinOp (.Name "place" p3) .Add (.Name "size" p4) p5)) none Yl) pos) .fresh (.str (Txt.slice x (some place) (some (place+size)))):=λh1 h2 h3=>
    Ev.lC (Ev.own h1) (show cI _ _ _ _ _ (some _) (some _) from Ev.own h2) (show cI _ _ _ _ _ (some _) (some _) from(Ev.bin (Ev.own h2) (Ev.own h3) ak.add|>.up (.inl rfl)))
   let L:Sg:=[("text",false,.str x),("place",false,.int place)]
   refine Ex.one (R:=λaq=>(∀s∈[(3:Int),2,1],numAt T x place s=none)) (cH.jV (items:=[(3:Int),2,1]) D.int (λ_=>L) (λdone=>∀s∈done,numAt T x place s=none) (λaq=>(∀s∈[(3:Int),2,1],numAt T x place s=none))
    (aN.tup (Ev.tuple (Ar.cons Ev.aG (Ar.cons Ev.aG (Ar.cons Ev.aG Ar.nil))) (by decide)) (bA _)) (λ_ _=>rfl) ⟨.inl rfl,ai⟩ ⟨rfl,rfl,trivial⟩ (λ_ h=>nomatch h) ?_ (λh aq _=>h) λaq h=>.inl ⟨rfl,h⟩) λaq h=>?_
   · intro done size left hs jW
     refine Ex.ite (b:=(lookup (.str (Txt.slice x (some place) (some (place+size)))) T).isSome) (λaq=>numAt T x place size=none/\ Sub L aq) (Te.cmp (sl rfl rfl rfl|>.up (.inl rfl)) (Ev.wQ hg) (aH.inDict hT)) (λhb=>?_) (λhb=>Ex.done (.inl ⟨rfl,?_,rfl,rfl,trivial⟩)) λaq ⟨h1,h2⟩=>Ex.done (.inl ⟨rfl,λs nY=>?_,h2⟩)
     · rw[sj] at hb
       obtain⟨i,we⟩:=c_.mp hb
       have hv:numberOf T x place=i:=by
        unfold numberOf
        have cs:([],(3:Int),[2,1])=(done,size,left) \/([3],(2:Int),[1])=(done,size,left) \/([3,2],(1:Int),[])=(done,size,left):=by
         match done,hs with
         |[],hs=>injection hs with a b;left;rw[a,b]
         |[_],hs=>injection hs with a b;injection b with b c;subst a;right;left;rw[b,c]
         |[_,_],hs=>injection hs with a b;injection b with b c;injection c with c d;subst a;subst b;right;right;rw[c,d]
         |_::_::_::r,hs=>simp at hs
        rcases cs with cs|cs|cs
        · obtain⟨rfl,rfl⟩:size=3/\ done=[]:=by simp_all
          rw[we]
        · obtain⟨rfl,rfl⟩:size=2/\ done=[3]:=by simp_all
          rw[we,jW 3 (by decide)]
        · obtain⟨rfl,rfl⟩:size=1/\ done=[3,2]:=by simp_all
          rw[we,jW 3 (by decide),jW 2 (by decide)]
       rw[hv]
       exact Ex.ret (md:=.any) (Ev.sub (Ev.wQ hg) (sl rfl rfl rfl|>.up (.inl rfl)) (aL.dict hT (Iv _ _ we))) (.inl rfl) (.inr ⟨Fl.noConfusion,.inr (.inr ⟨_,rfl,.inr ⟨Fl.noConfusion,.inl rfl⟩⟩)⟩)
     · rw[sj] at hb
       cases q:numAt T x place size with
       |none=>rfl
       |some i=>rw[q] at hb;cases hb
     · rcases bB.mp nY with nY|nY
       · exact jW s nY
       · rw[ay.mp nY];exact h1
   · have hv:numberOf T x place=0:=by
      unfold numberOf
      rw[h 3 (by decide),h 2 (by decide),h 1 (by decide)]
     rw[hv]
     exact Ex.ret (md:=.any) Ev.aG (.inl rfl) (.inl rfl)
theorem CV{P:Int->Prop}{n:Int}(h:0<=n/\ n<=8)(h0:P 0)(h1:P 1)(h2:P 2)(h3:P 3)(h4:P 4)(h5:P 5)(h6:P 6)(h7:P 7)(h8:P 8):P n:=by
 have:n=0 \/n=1 \/n=2 \/n=3 \/n=4 \/n=5 \/n=6 \/n=7 \/n=8:=Xj h.1 h.2
 rcases this with rfl|rfl|rfl|rfl|rfl|rfl|rfl|rfl|rfl<;>assumption
theorem wY{n:Int}(h:0<=n/\ n<=8):MulOk ")" n:=
 CV (P:=λn=>MulOk ")" n) h (by unfold MulOk;decide) (by unfold MulOk;decide) (by unfold MulOk;decide) (by unfold MulOk;decide) (by unfold MulOk;decide) (by unfold MulOk;decide) (by unfold MulOk;decide) (by unfold MulOk;decide) (by unfold MulOk;decide)
theorem sC{n:Int}(h:0<=n/\ n<=8):(Txt.mul ")" n).length<=8:=
 CV (P:=λn=>(Txt.mul ")" n).length<=8) h (by decide) (by decide) (by decide) (by decide) (by decide) (by decide) (by decide) (by decide) (by decide)
noncomputable def eV(w:Str):Str:=(Str.ofString "(\"" ++w)++ "\\\"\\\\\""
noncomputable def sD(aj:List Int)(lines:List Str)(t:Str)(k:Int):Str:=(t++Txt.mul ")" (aj.getD (k-1).toNat 0+1-aj.getD k.toNat 0))++lines.getD k.toNat ""
noncomputable def eZ(aj:List Int)(lines:List Str)(l:List Int):Str:=l.foldl (sD aj lines) (lines.getD 0 "")
noncomputable def textOf(aj:List Int)(words:List Str):Str:=
 eZ aj (words.map eV) ((List.range (aj.length-1)).map λ(i:Nat)=>(1+i:Int))++Txt.mul ")" (aj.getD (aj.length-1) 0+1)
noncomputable def onStr(f:Str->D):D->Option D
 | .str r=>some (f r)
 |_=>none
theorem lZ(f:Str->D): ∀l:List Str,(l.map D.str).filterMap (onStr f)=l.map f
 |[]=>rfl
 |i::l=>by
  rw[bN,gG]
  show f i::_=_
  rw[lZ f l];rfl
theorem lI(l:List Str): ∀d∈l.map D.str,d.sc=true:=λd hd=>by obtain⟨i,_,rfl⟩:=aQ.mp hd;rfl
theorem vE{l:List Str}{i:Nat}(h:i<l.length):(l.map D.str)[i]? =some (.str (l.getD i "")):=by
 simp only[cM,cE h]
 simp[h]
theorem yD{w:Str}(h:w.length<=10):(eV w).length<=20:=by
 unfold eV
 rw[gH,gH]
 have e1:(Str.ofString "(\"").length=2:=by decide
 have e2:(Str.ofString "\\\"\\\\\"").length=5:=by decide
 exact UB e1 e2 h
theorem IG{C:Cx}{a:Addr}{k:Nat}{aj:List Int}{words:List Str}(hf:bu C 71 a)(hlen:bT C "len" (.builtin "len"))(yz:bT C "range" (.type "range"))(h1:1<=aj.length)(hl:aj.length=words.length)(hn:words.length<=1000)(hw: ∀w∈words,w.length<=10)
 (hd: ∀j,j+1<aj.length->0<=aj.getD j 0+1-aj.getD (j+1) 0/\ aj.getD j 0+1-aj.getD (j+1) 0<=8) (he:0<=aj.getD (aj.length-1) 0/\ aj.getD (aj.length-1) 0<=7):
 Fn C (k+1) (.ref a) [DL aj,.list (words.map D.str)] (.str (textOf aj words)):=by
 refine Fn.plain hf.2 ?_ rfl (by decide) ?_ ?_ ?_ ?_ rfl rfl rfl
 · intro pm cd doc vs hl
   obtain⟨v,w,rfl⟩:=mS hl
   rfl
 · decide
 · decide
 · decide
 · have aF:sizeLine=16777216:=rfl
   have mq:(aj.map D.int).length=aj.length:=aM _
   refine Ex.gv (items:=words.map D.str) (g:=onStr λw=>.str (eV w)) false (cC.name (aN.list (Ev.name rfl) (lI _)) (lI _) trivial (λd hd=>?_) (by rw[aM];exact OJ aF hn)) ⟨.inl rfl,ai⟩ ?_
   · obtain⟨w,EZ,rfl⟩:=aQ.mp hd
     have:=hw w EZ
     have e1:(Str.ofString "(\"").length=2:=by decide
     have e2:(Str.ofString "\\\"\\\\\"").length=5:=by decide
     exact⟨.inl rfl,Ev.bin (Ev.bin (Ev.iB (x:="(\"") (by decide)) (Ev.o (.str w) rfl) (ak.gM (U0 aF e1 this))|>.up (.inl rfl)) (Ev.iB (x:="\\\"\\\\\"") (by decide)) (ak.gM (by rw[gH];exact V4 aF e1 e2 this))⟩
   have el:(words.map D.str).filterMap (onStr λw=>.str (eV w))=(words.map eV).map D.str:=by simp only[lZ,cN];rfl
   rw[el]
   have EG:(words.map eV).length=words.length:=aM _
   have yE: ∀j,((words.map eV).getD j "").length<=20:=λj=>by
    rw[bM,cM]
    cases h:words[j]? with
    |none=>show(Str.ofString "").length<=20;decide
    |some w=>exact yD (hw w (pJ h))
   generalize II:words.map eV=lines at*
   refine Ex.set (d:=.str (lines.getD 0 "")) (aP.jg (md:=.any) (Ev.sub (Ev.o (.list (lines.map D.str)) rfl) Ev.aG (aL.list (vE (by lia)) (by decide))) rfl) ⟨.inl rfl,ai⟩ ?_
   let em:Nat->Int:=λi=>1+i
   refine Ex.one (R:=λaq=>Sub [("depths",false,DL aj),("text",false,.str (eZ aj lines ((List.range (aj.length-1)).map em)))] aq/\ (eZ aj lines ((List.range (aj.length-1)).map em)).length<=30*aj.length+20) (cH.jV (items:=List.range ((aj.length:Int)-1).toNat) (λ(i:Nat)=>D.int (1+i))
    (λdone=>[("depths",false,DL aj),("lines",false,.list (lines.map D.str)),("text",false,.str (eZ aj lines (done.map em)))]) (λdone=>(eZ aj lines (done.map em)).length<=30*done.length+20)
    (λaq=>Sub [("depths",false,DL aj),("text",false,.str (eZ aj lines ((List.range (aj.length-1)).map em)))] aq/\ (eZ aj lines ((List.range (aj.length-1)).map em)).length<=30*aj.length+20)
    (aN.call (ds:=[.int 1,.int (aj.length:Int)]) (aK.blt rfl yz) (Ar.cons Ev.aG (Ar.cons (by rw[<-mq];exact(Ev.call (ds:=[DL aj]) (aK.blt rfl hlen) (Ar.cons (Ev.o _ rfl) Ar.nil) aA.blt Fn.gm|>.up (.inl rfl))) Ar.nil)) aA.typ (ee.lY (by lia) (by lia)))
    (λ_ _=>rfl) ⟨.inl rfl,ai⟩ ⟨rfl,rfl,rfl,trivial⟩ ?_ ?_ ?_ λaq h=>.inl ⟨rfl,h⟩) λaq ⟨h,hsz⟩=>kM.weak h.le ?_
   · exact aX (yE 0) (PR)
   · intro done i left hi jW
     have GZ:i∈List.range ((aj.length:Int)-1).toNat:=by rw[hi];simp
     rw[bS] at GZ
     have AM:done.length<=1000:=by
      have:=congrArg List.length hi
      simp at this;exact VH this hl hn
     have CM:eZ aj lines ((done++[i]).map em)=sD aj lines (eZ aj lines (done.map em)) (1+i):=by
      unfold eZ;simp only[dN,eE];rfl
     have hdi:=hd i (Kl GZ)
     have e1:((1+(i:Int))-1).toNat=i:=SI
     have e2:(1+(i:Int)).toNat=i+1:=SJ
     rw[CM]
     unfold sD
     rw[e1,e2]
     generalize eZ aj lines (done.map em)=t at*
     have hm:=sC hdi
     have hlj:=yE (i+1)
     refine Ex.set (aP.jg (Ev.bin (Ev.bin (Ev.o (.str t) rfl) (Ev.bin (Ev.iB (x:=")") (by decide)) (Ev.bin (Ev.bin (Ev.sub (md:=.any) (Ev.o (DL aj) rfl) (Ev.bin (Ev.o (.int (1+i)) rfl) Ev.aG ak.sub|>.up (.inl rfl)) (aL.list (by rw[e1];exact bQ (TH GZ)) (Z6))) Ev.aG ak.add|>.up (.inl rfl))
      (Ev.sub (md:=.any) (Ev.o (DL aj) rfl) (Ev.o (.int (1+i)) rfl) (aL.list (by rw[e2];exact bQ (Kl GZ)) (Q9))) ak.sub|>.up (.inl rfl)) (ak.uT (wY hdi) (Q91 aF hm))|>.up (.inl rfl)) (ak.gM (WC aF jW AM hm))|>.up (.inl rfl))
      (Ev.sub (md:=.any) (Ev.o (.list (lines.map D.str)) rfl) (Ev.o (.int (1+i)) rfl) (aL.list (by rw[e2];exact vE (Wa GZ EG hl)) (Q9))) (ak.gM (by rw[gH];exact W9 aF jW AM hlj hm))) rfl) ⟨.inl rfl,ai⟩ (Ex.done (.inl ⟨rfl,?_,rfl,rfl,rfl,trivial⟩))
     rw[gH,gH,cF]
     simp only[pI]
     exact WR jW hlj hm
   · intro jW aq hle
     have e:((aj.length:Int)-1).toNat=aj.length-1:=J5
     rw[e] at hle jW
     refine⟨⟨hle _ _ _ rfl,hle _ _ _ rfl,trivial⟩,?_⟩
     rw[List.length_range] at jW
     exact U1 jW
   · have ht:textOf aj words=eZ aj lines ((List.range (aj.length-1)).map em)++Txt.mul ")" (aj.getD (aj.length-1) 0+1):=by unfold textOf;rw[II]
     rw[ht]
     generalize eZ aj lines ((List.range (aj.length-1)).map em)=t at*
     have hm:=sC (n:=aj.getD (aj.length-1) 0+1) (Kc he.1 he.2)
     refine Ex.ret (md:=.fresh) (Ev.bin (Ev.o (.str t) rfl) (Ev.bin (Ev.iB (x:=")") (by decide)) (Ev.bin (Ev.sub (md:=.any) (Ev.o (DL aj) rfl) (Ev.un Ev.aG iE.neg|>.up (.inl rfl)) (aL.qY (j:=aj.length-1) (bQ (PS h1)) (.inr (by rw[mq];lia)))) Ev.aG ak.add|>.up (.inl rfl)) (ak.uT (wY (Kc he.1 he.2)) (Q91 aF hm))|>.up (.inl rfl)) (ak.gM (by lia))) (.inl rfl) (.inl rfl)
end Mine
end
section
open PySem PySem.W PyProof.Rows PySem.Challenge
namespace Mine
section
variable{M:Model}{A:Around}{R:GenEnd}{Y:Protocol}{n:Nat}{bD:Shared}{c:Code}{fs:List Frame}{s:Shared}{env:Env}
 {K:Flow->Sem Fin} {H:Value->Sem Fin} {gd:Bool->Bool} {lv:List Value->List Value}
theorem sE{st:Stmt}(h:wpAny M (A.over c fs) (exec st env) (λf s'=>Seg M A R Y n bD c (K f) fs s') (λ_ _=>False) s):Seg M A R Y n bD c ((exec st env).wrap K H gd lv) fs s:=
 seg_wrap (aT h (λ_ _ x=>x) λ_ _ x=>x.elim)
theorem yF{t:Expr}{body orelse:List Stmt}{pos:Pos}
 (h:wpAny M (A.over c fs) (isTrue t env (eval t env)) (λb s'=>Seg M A R Y n bD c ((if b=true then execs body env else execs orelse env).wrap K H gd lv) fs s') (λ_ _=>False) s):
 Seg M A R Y n bD c ((exec (.If t body orelse pos) env).wrap K H gd lv) fs s:=by
 rw[arm_exec_If]
 refine seg_at ?_
 show Seg M A R Y n bD c ((isTrue t env (eval t env)>>=λb=>if b=true then execs body env else execs orelse env).wrap K H gd lv) fs s
 rw[mR,Sem.wrap_wrap]
 exact seg_wrap (aT h (λb s' hb=>hb) λ_ _ x=>x.elim)
noncomputable def zK(K:Flow->Sem Fin)(H:Value->Sem Fin)(gd:Bool->Bool)(lv:List Value->List Value)(env:Env)(c:Code)(p:Pos):Frame:=
 .ret (λr=>((match r with| .ok f=>(.pure f:Sem Flow)| .error e=>.raise e).onRaise λ(x:Value)=>do
       if(<-field x 1)==Value.none then unsupported "frame.own-activation:exception-without-traceback"
       setFlight x env.frame).wrap K H gd lv) none (gd false) (lv []) c p []
theorem Fp{target iter:Expr}{body orelse:List Stmt}{pos:Pos}(hs: ∀x,foldedSetIterable iter env x=pure x)
 (h:wpAny M (A.over c fs) (eval iter env) (λx ah=>wpAny M (A.over c fs) (pyIter x) (λit aE=>
   ∀p,Seg M A R Y n bD (.forLoop target it body orelse env) (M.den (.forLoop target it body orelse env)) (zK K H gd lv env c p::fs) aE) (λ_ _=>False) ah) (λ_ _=>False) s):
 Seg M A R Y n bD c ((exec (.For target iter body orelse pos) env).wrap K H gd lv) fs s:=by
 rw[arm_exec_For]
 refine seg_at ?_
 show Seg M A R Y n bD c ((eval iter env>>=λx=>(foldedSetIterable iter env x>>=λy=>(standAt iter.pos>>=λ_=>(holding [y] (pyIter y)>>=λit=>runOwn (.forLoop target it body orelse env) env)))).wrap K H gd lv) fs s
 rw[mR,Sem.wrap_wrap]
 refine seg_wrap (aT h (λx ah bX=>?_) λ_ _ x=>x.elim)
 rw[hs x]
 refine seg_at ?_
 show Seg M A R Y n bD c ((holding [x] (pyIter x)>>=λit=>runOwn (.forLoop target it body orelse env) env).wrap K H gd lv) fs ah
 rw[mR,Sem.wrap_wrap]
 refine seg_wrap (dZ (aT bX (λit aE oh=>?_) λ_ _ x=>x.elim))
 exact seg_call oh
end
section
variable{prog:Program}{w:World}{A:Around}{R:GenEnd}{Y:Protocol}{n:Nat}{bD:Shared}{fs:List Frame}{s:Shared}{env:Env}
noncomputable def CX(target:Expr)(it:Value)(body orelse:List Stmt)(env:Env):Flow->Sem Fin
 | .next| .cont=>.pure (.again (.forLoop target it body orelse env))
 | .brk=>.pure (.done .next)
 | .ret v=>.pure (.done (.ret v))
noncomputable def G3(env:Env)(e:Value):Sem Fin:=(do noteFrame e env;theTreesLotGoes e:Sem Unit).wrap (λ_=>.raise e) .raise id id
theorem qB{target:Expr}{it:Value}{body:List Stmt}
 (h:wpAny (model prog w) (A.over (.forLoop target it body [] env) fs) (pyNext it) (λr ah=>match r with
   |none=>Seg (model prog w) A R Y n bD (.block [] env) ((model prog w).den (.block [] env)) fs ah
   |some v=>wpAny (model prog w) (A.over (.forLoop target it body [] env) fs) (letOwnedTupleGo target it v) (λ_ aE=>
    wpAny (model prog w) (A.over (.forLoop target it body [] env) fs) (assign target env v) (λ_ aV=>
     Seg (model prog w) A R Y n bD (.forLoop target it body [] env) ((execs body env).wrap (CX target it body [] env) (G3 env) id id) fs aV) (λ_ _=>False) aE) (λ_ _=>False) ah) (λ_ _=>False) s):
 Seg (model prog w) A R Y n bD (.forLoop target it body [] env) ((model prog w).den (.forLoop target it body [] env)) fs s:=by
 show Seg _ A R Y n bD _ ((forTurn target it body [] env).onRaise (λx=>do noteFrame x env;theTreesLotGoes x)) fs s
 unfold forTurn
 rw[Sem.onRaise_eq_wrap]
 refine seg_at ?_
 show Seg _ A R Y n bD _ (((pyNext it).onRaise (λ_=>standAt {target.pos with line:=0})>>=λr=>(match r with
  |none=>again (.block [] env)
  |some v=>do
   letOwnedTupleGo target it v
   assign target env v
   match<-execs body env with
   | .next| .cont=>again (.forLoop target it body [] env)
   | .brk=>pure (.done .next)
   | .ret v=>pure (.done (.ret v)))).wrap .pure (λe=>(do noteFrame e env;theTreesLotGoes e:Sem Unit).bind λ_=>.raise e) id id) fs s
 rw[mR,Sem.wrap_wrap]
 refine seg_wrap (wpAny_onRaise (aT h (λr ah bX=>?_) λ_ _ x=>x.elim))
 cases r with
 |none=>exact seg_again rfl bX
 |some v=>
  show Seg _ A R Y n bD _ ((letOwnedTupleGo target it v>>=λ_=>(assign target env v>>=λ_=>(execs body env>>=λf=>(match f with
   | .next| .cont=>again (.forLoop target it body [] env)
   | .brk=>pure (.done .next)
   | .ret v=>pure (.done (.ret v)):Sem Fin)))).wrap .pure (λe=>(do noteFrame e env;theTreesLotGoes e:Sem Unit).bind λ_=>.raise e) id id) fs ah
  rw[mR,Sem.wrap_wrap]
  refine seg_wrap (aT bX (λ_ aE oh=>?_) λ_ _ x=>x.elim)
  rw[mR,Sem.wrap_wrap]
  refine seg_wrap (aT oh (λ_ aV tD=>?_) λ_ _ x=>x.elim)
  rw[mR,Sem.wrap_wrap]
  rw[Sem.wrap_congr (execs body env) _ _ (K':=CX target it body [] env) (H':=G3 env) (λf=>by cases f<;>rfl) (λe=>by
   show((do noteFrame e env;theTreesLotGoes e:Sem Unit).bind λ_=>.raise e)=_
   rw[Sem.bind_eq_wrap];rfl)]
  exact tD
theorem Bf{K:Flow->Sem Fin}{H:Value->Sem Fin}{gd lv}{c:Code}{p:Pos}(h:Seg (model prog w) A R Y n bD c (K .next) fs s):
 Seg (model prog w) A R Y n bD (.block [] env) ((model prog w).den (.block [] env)) (zK K H gd lv env c p::fs) s:=
 seg_leaf (.ok .next) h
end
noncomputable def G4(C:Cx)(k:Nat)(f:Value)(ds items:List D):Prop:=
 ∀(A:Around) (s:Shared) (vs:List Value) (n:Nat) (h₀:Heap) (Q:Value->Shared->Prop),bH A k->C.B h₀->(∀b o,h₀.get? b=some o->s.heap.get? b=some o)->aU C.wc s.heap (λ_=>True) vs ds->n<=s.gens.size->
  (∀I wr s' Ft J,cG s s'->(∀b∈wr,s.heap.get? b=none/\ (s'.heap.get? b).isSome=true)->It C A I n Ft J->J wr items s'->(∀b,Ft b->((h₀.get? b).isSome=true \/s.heap.get? b=none)/\ (s'.heap.get? b).isSome=true)->Q (.ref I) s')->
  wpAny (model C.prog C.w) A (PySem.call f vs) (λx ah=>wpAny (model C.prog C.w) A (pyIter x) Q (λ_ _=>False) ah) (λ_ _=>False) s
section
variable{C:Cx}{sc:Scope}{ro:List Str}{k:Nat}{σ:Sg}{P:Sg->Fl->Prop}{A:Around}{env:Env}{h₀:Heap}{own:Ow}{s s':Shared}
theorem aN.G5{func:Expr}{args:List Expr}{pos:Pos}{f:Value}{ds items:List D}(hf:aK C sc ro k σ func f)(ha:Ar C sc ro k σ args .any ds)(hk:aA C f)(hc:G4 C k f ds items)
 (he:autoParam (∀env,eval (.Call func args [] pos) env=(do callWith pos (<-eval func env) [] (backTo pos (starEach args env)) (backToKw pos (keywordEach [] env)))) au):
 aN C sc ro k σ (.Call func args [] pos) items:=by
 intro A env h₀ own s Q r S q
 rw[he]
 refine ao (hf A env h₀ own s _ r S λah az=>?_)
 refine callWith_of (P:=C.B) (by show((backTo pos (starEach args env)).any (·.1)||_)=false;rw[ha.2];rfl) hk ?_
 have bE:=S.cX az
 refine di (ha.2 env pos) (ha.1 A env h₀ own ah pos _ r bE λvs aE a₂ gK=>⟨(bE.cX a₂).B,?_⟩)
 have aY:=az.trans a₂
 refine hc A aE vs s.gens.size h₀ Q r S.base (bE.cX a₂).keep gK aY.gens.1 λI wr aV Ft J cL nK IT hJ BU=>q I wr aV Ft J (aY.trans cL) (λb hb=>⟨aY.none (nK b hb).1,(nK b hb).2⟩) IT hJ λb hb=>⟨λhm=>?_,(BU b hb).2⟩
 rcases(BU b hb).1 with h|h
 · rw[S.fresh b (S.sub b hm)] at h;cases h
 · have:=S.alive b (S.sub b hm)
   rw[aY.none h] at this;cases this
noncomputable def IJ(σ:Sg):Prop:=∀x f d,σ.get x=some (f,d)->f=false/\ d.sc=true
theorem St.compat(S:St C sc [] env h₀ σ own s)(pA:IJ σ)(hk: ∀b o,(b∈own.av \/(h₀.get? b).isSome=true)->s.heap.get? b=some o->s'.heap.get? b=some o):St C sc [] env h₀ σ own s':=by
 have hL:env.locals∈own.av:=S.sub _ S.eN
 have EX: ∀x,env.kindOf x=some .free->False:=λx hx=>by have:=S.free x hx;cases this
 have zq: ∀x v,cg env s.heap x v->cg env s'.heap x v:=λx v h=>by
  rcases h with⟨kx,m,n,e⟩|⟨kx,c,e,n⟩
  · exact .inl ⟨kx,m,cT n λo q=>hk _ o (.inl hL) q,e⟩
  · rcases kx with kx|⟨kx,_⟩
    · refine .inr ⟨.inl kx,c,e,br n λo q=>hk _ o (.inl ?_) q⟩
      obtain⟨c',_,e',_,m⟩:=S.cells x kx (by simp)
      rw[e] at e';injection e' with e';rw[e']
      exact S.sub _ m
    · exact(EX x kx).elim
 exact{
  scope:=S.scope,kind:=S.kind,glob:=S.glob,blt:=S.blt,base:=S.base
  keep:=λb o e=>hk b o (.inr (by rw[e];rfl)) (S.keep b o e)
  fresh:=S.fresh
  alive:=λb hb=>by
   obtain⟨o,ho⟩:=c_.mp (S.alive b hb)
   rw[hk b o (.inl hb) ho];rfl
  ns:=by obtain⟨m,n⟩:=S.ns;exact⟨m,cT n λo e=>hk _ o (.inl hL) e⟩
  eN:=S.eN,sub:=S.sub
  cells:=λy hy hr=>by obtain⟨c,iK,e,i,m⟩:=S.cells y hy hr;exact⟨c,iK,e,br i λo q=>hk _ o (.inl (S.sub _ m)) q,m⟩
  gb:=S.gb,free:=S.free,pe:=λx c hx=>by cases hx
  vars:=λy f d e=>by
   obtain⟨v,va,sl⟩:=S.vars y f d e
   obtain⟨rfl,f2⟩:=pA y f d e
   exact⟨v,zq y v va,Rep.dH sl f2⟩
  inj:=λy z dy dz a e1 e2 v1 v2=>by
   obtain⟨f1,_⟩:=pA y _ _ e1
   cases f1}
theorem St.mk1{L:Addr}{m:Str->Option Value}{av:List Addr}(h1:env.scope=sc)(h2:sc.kind= .function)(h3:env.globals=mainGlobals)(h4:env.builtins=builtinsNs)(hb:C.B h₀)(L4: ∀b o,h₀.get? b=some o->s.heap.get? b=some o)
 (hL:env.locals=L) (hm:L∈av) (IK: ∀b∈av,h₀.get? b=none) (nR: ∀b∈av,(s.heap.get? b).isSome=true) (hcell: ∀x∈sc.names,x.2≠.cell) (hfree: ∀x∈sc.names,x.2≠.free) (mT:s.heap.Ns L m)
 (NS: ∀x f d,σ.get x=some (f,d)->f=false/\ sc.names.lookup x=some .local/\ ∃v,m x=some v/\ ∀(h:Heap) (Pr:Addr->Prop),Rep C.wc h Pr v d):St C sc [] env h₀ σ ⟨av,[L]⟩ s where
 scope:=h1
 kind:=h2
 glob:=h3
 blt:=h4
 base:=hb
 keep:=L4
 fresh:=IK
 alive:=nR
 ns:=⟨m,hL▸mT⟩
 eN:=by rw[hL];exact .head _
 sub:=λb hb=>by rw[ay.mp hb];exact hm
 cells:=λx hx=>absurd (by rw[<-h1];exact hx) (mC hcell (x:=x))
 gb:=λx y c hx=>absurd (by rw[<-h1];exact hx) (mC hcell (x:=x))
 free:=λx hx=>absurd (by rw[<-h1];exact hx) (mC hfree (x:=x))
 pe:=λx c hx=>by cases hx
 vars:=λx f d e=>by
  obtain⟨rfl,hl,v,hv,hr⟩:=NS x f d e
  exact⟨v,.inl ⟨by unfold Env.kindOf;exact h1▸hl,m,hL▸mT,hv⟩,hr _ _⟩
 inj:=λy z dy dz a e1=>by
  obtain⟨f1,_⟩:=NS y _ _ e1
  cases f1
end
noncomputable def aZ:Bool->List Nat->Nat->Int->List (Int×Str)
 |e,[],_,last=>if e then[(last,"\\")] else[]
 |true,c::r,i,_=>((i:Int),Str.ofString "\\" ++⟨#[c]⟩)::aZ false r (i+1) i
 |false,c::r,i,_=>if c=92 then aZ true r (i+1) i else((i:Int),⟨#[c]⟩)::aZ false r (i+1) i
noncomputable def wZ(p:Int×Str):D:=.tup [.int p.1,.str p.2]
section
variable{prog:Program}{w:World}{A:Around}{E:Value->Shared->Prop}{s:Shared}
theorem kH{a:Addr}{g n:Nat}{gs:GenState}{P:Nat->Shared->Shared->Prop}{Y:Protocol}{Q:Option Value->Shared->Prop}(hh:A.handled=none)
 (hl:s.heap.NoLimit) (L5:A.depth<recursionLimit)
 (hg:s.heap.IsGen a g) (wg:s.gens[g]? =some gs)
 (JH:gs.Goes (model prog w) A.in1 (λn bD r ah=>r= .ok (.ret .none)/\ P n bD ah) Y n (.send .none) (s.setGen g .running))
 (hY: ∀v ah yG,yG.bare=true->Y (n-1) (s.setGen g .running) v ah (λr' iJ=>match n with
   |0=>False
   |m+1=>yG.Goes (model prog w) A.in1 (λn bD r ah=>r= .ok (.ret .none)/\ P n bD ah) Y m r' iJ)->Q (some v) (ah.setGen g yG))
 (hP: ∀ah,P n (s.setGen g .running) ah-> ∀h',(∀b o,ah.heap.get? b=some o->h'.get? b=some o)->Q none {ah.setGen g .finished with heap:=h'}):
 wpAny (model prog w) A (pyNext (.ref a)) Q E s:=by
 unfold pyNext
 refine ao (wpAny_attempt (wpAny_callSpecial?_slot (name:=Str.ofString "__next__") hg.typeIs slot_gen_next
  (wpAny_call_entry slot_gen_next hg.typeIs entry_gen_next ?_ (args_gen_next _))))
 show wpAny _ _ (Builtin.Generator.genWake (.ref a) (.send .none)) _ _ s
 unfold Builtin.Generator.genWake
 refine ao (dZ (wpAny_genNumber hg (ao (wpAny_genState wg ?_))))
 cases gs with
 |running=>exact JH.elim
 |finished=>exact JH.elim
 |_=>
  refine ao (wpAny_roomToWake hl L5 ?_)
  show wpAny _ _ (.resume g (.send .none) [] _) _ _ s
  refine wpAny_resumeQ wg JH (λx ah hx=>?_) (λv ah yG hb hv=>?_)
  · obtain⟨rfl,hp⟩:=hx
    show wpAny _ _ (newExc (.type "StopIteration") []>>=_) _ _ _
    refine ao ?_
    rw[newExc,newTuple]
    refine ao (wpAny_newObj_type ?_ (by size_fits))
    refine ao (m:=firstArgMember _ _) (wpAny_of_eq (a:=Value.none) (by first|rfl|(simp only[firstArgMember];rfl)) ?_)
    refine wpAny_newObj_type ?_ (by size_fits)
    rw[raiseNew]
    refine ao (ao (wpAny_handled ?_))
    rw[show A.in1.handled=none from hh]
    refine wpAny_throw ?_
    refine ao (wpAny_isInstance (T:="StopIteration") (b:=true) ⟨_,cV _ rfl,rfl⟩ isSubtype_stop ?_)
    exact aJ (hP ah hp _ λb o hb=>dh _ (dh _ hb))
  · exact aJ ⟨v,rfl,aJ (hY v ah yG hb hv)⟩
theorem Fq{a:Addr}{g:Nat}{target:Expr}{v:Value}{Q:Unit->Shared->Prop}(hg:s.heap.IsGen a g)(q:Q () s):wpAny (model prog w) A (letOwnedTupleGo target (.ref a) v) Q E s:=by
 refine bk λG hG=>?_
 obtain⟨o,nm,qn,ho,hc,hd,Cq⟩:=hg
 refine hG ?_;clear hG G
 have k: ∀r:Addr,wpAny (model prog w) A (do let o<-load a;match o.cls,o.data with
  | .type n,.fields vs=>if["enumerate","zip","dict_itemiterator","dict_reverseitemiterator","odict_iterator","itertools.zip_longest","itertools.pairwise"].contains n&&vs[0]? ==some (rawInt r) then(do rule "for.unpacks-the-owned-tuple";updateField a 0 .none) else pure ()
  |_,_=>pure ()) Q E s:=λr=>by
  refine ao (wpAny_load ho ?_);rw[hc,hd];exact aJ q
 cases target with
 |Tuple=>cases v with
  |ref r=>exact k r
  |_=>exact aJ q
 |List=>cases v with
  |ref r=>exact k r
  |_=>exact aJ q
 |_=>exact aJ q
end
noncomputable abbrev yH:Scope:=fScope (bW 2)
noncomputable abbrev eo:List Stmt:=fBody (bW 2)
noncomputable def CY:Stmt:=eo.getD 2 (.Pass default)
noncomputable def CZ:Stmt:=eo.getD 3 (.Pass default)
noncomputable def N4(x:Str)(last:Int)(e:Bool):Sg:=[("addr",false,.str x),("pos",false,.int last),("escape",false,.bool e)]
theorem IL(x:Str)(last:Int)(e:Bool):IJ (N4 x last e):=λy f d h=>by
 rcases Sg.bO h with⟨e0,h⟩|⟨_,h⟩
 · cases h;exact⟨rfl,rfl⟩
 · rcases Sg.bO h with⟨e0,h⟩|⟨_,h⟩
   · cases h;exact⟨rfl,rfl⟩
   · rcases Sg.bO h with⟨e0,h⟩|⟨_,h⟩
     · cases h;exact⟨rfl,rfl⟩
     · cases h
noncomputable def gY(C:Cx)(h₀:Heap)(W:List Addr)(all:List (Int×Str)):Protocol:=λm bD v s' IM=>
 m<all.length/\ ∃it,all[all.length-1-m]? =some it/\ aO W bD s'/\ Rep C.wc s'.heap (λ_=>True) v (wZ it)/\ (∀b∈W,(s'.heap.get? b).isSome=true)/\
  ∀iJ,(∀b o,(b∈W \/(h₀.get? b).isSome=true)->s'.heap.get? b=some o->iJ.heap.get? b=some o)->IM (.send .none) iJ
noncomputable def gP(W:List Addr)(n:Nat)(bD s:Shared):Prop:=n=0/\ aO W bD s
noncomputable abbrev gR(W:List Addr):GenEnd:=λn bD r s=>r= .ok (.ret .none)/\ gP W n bD s
noncomputable def N5:Flow->Sem Fin:=λf=>.pure (.done (.ret (match f with| .ret v=>v|_=>.none)))
noncomputable def N6(env:Env):Value->Sem Fin:=λe=>(leaving env e).wrap (λ_=>.raise e) .raise id id
noncomputable def gK1(env:Env):Flow->Sem Fin:=λf=>match f with| .next=>(execs [CZ] env).wrap N5 (N6 env) id id|f=>N5 f
theorem w_{A:Around}{k:Nat}(r:bH A (k+1)):bH A.in1 k:=⟨r.1,by have:=r.2.1;show A.depth+2*k+2<_;exact VI this,by have:=r.2.2;show A.units+1+20*k+40<_;exact Wj this⟩
theorem Bg{A:Around}{k:Nat}{env:Env}(r:bH A (k+1)):bH (A.over (.func eo env) []) k:=by
 refine⟨r.1,?_,?_⟩
 · have:=r.2.1
   show A.depth+frameCount []+(Code.func eo env).weight+2*k+2<_
   have hw:(Code.func eo env).weight=1:=rfl
   have h0:frameCount []=0:=rfl
   exact W4 this h0 hw
 · have:=r.2.2
   show A.units+unitsOf []+(Code.func eo env).cUnits+20*k+40<_
   have hw:(Code.func eo env).cUnits=3:=rfl
   have h0:unitsOf []=0:=rfl
   exact Xc this h0 hw
theorem xd{A:Around}{k:Nat}{env:Env}{t:Expr}{it:Value}{b:List Stmt}{K:Flow->Sem Fin}{H:Value->Sem Fin}{p:Pos}(r:bH A (k+1)):bH (A.over (.forLoop t it b [] env) [zK K H id id env (.func eo env) p]) k:=by
 refine⟨?_,?_,?_⟩
 · show(markOver none A.handled A.handled)=none
   rw[r.1];rfl
 · have:=r.2.1
   show A.depth+frameCount [(Code.func eo env,p)]+(Code.forLoop t it b [] env).weight+2*k+2<_
   have hw:(Code.forLoop t it b [] env).weight=0:=rfl
   have h0:frameCount [(Code.func eo env,p)]=1:=rfl
   exact W5 this hw h0
 · have:=r.2.2
   show A.units+unitsOf [(Code.func eo env,p)]+(Code.forLoop t it b [] env).cUnits+20*k+40<_
   have hw:(Code.forLoop t it b [] env).cUnits=0:=rfl
   have h0:unitsOf [(Code.func eo env,p)]=3:=rfl
   exact Xd this hw h0
section
variable{C:Cx}{k:Nat}{A:Around}{env:Env}{h₀:Heap}{L G T:Addr}{x:Str}{all:List (Int×Str)}
theorem Bj{M:Model}{A:Around}{R:GenEnd}{Y:Protocol}{n:Nat}{bD:Shared}{c:Code}{fs:List Frame}{s:Shared}{env:Env}{K:Flow->Sem Fin}{H:Value->Sem Fin}{gd:Bool->Bool}{lv:List Value->List Value}
 {e:Expr} {Ym pos:Pos} (hfs:splitAtGen fs=none) (JC:gd false=false) (hfg:fs.any Frame.guarded=false) (rO:env.scope.isCoroutine=false) (hi:interactive env=false)
 (h:wpAny M (A.over c fs) (eval e env) (λv s'=>∀IM:Resume->Shared->Prop,(∀iJ,Seg M A R Y n iJ c (K .next) fs iJ->IM (.send .none) iJ)->Y n bD v s' IM) (λ_ _=>False) s):
 Seg M A R Y (n+1) bD c ((exec (.Expr (.Yield (some e) Ym) pos) env).wrap K H gd lv) fs s:=
 seg_Expr_Yield hfs JC hfg (aT h (λv s' h' IM hk=>h' IM λiJ hs=>hk .none iJ hs) λ_ _ x=>x.elim) rO hi
theorem L6{all:List (Int×Str)}{it:Int×Str}{rest:List (Int×Str)}{n:Nat}(h:all.drop (all.length-n)=it::rest)(hn:n<=all.length): ∃m,n=m+1/\ all[all.length-1-m]? =some it/\ all.drop (all.length-m)=rest/\ m<all.length:=by
 have h1:(all.drop (all.length-n)).length=n:=by rw[pH];exact RW hn
 simp only[h,eF] at h1
 refine⟨rest.length,h1.symm,?_,?_,by exact RX h1 hn⟩
 · have:all[all.length-n]? =some it:=by
    have:=congrArg (λl:List (Int×Str)=>l[0]?) h
    simpa using this
   rw[show all.length-1-rest.length=all.length-n by lia];exact this
 · have:=congrArg (List.drop 1) h
   simp only[List.drop_drop,List.drop_one] at this
   rw[show all.length-rest.length=all.length-n+1 by lia]
   exact this
theorem yI{last:Int}{n:Nat}{bD s:Shared}{av W:List Addr}(r:bH A (k+1))(S:St C yH [] env h₀ (N4 x last false) ⟨av,[L]⟩ s)(hn:n<=all.length)(hd:all.drop (all.length-n)=[])(a:aO W bD s):
 Seg (model C.prog C.w) A (gR W) (gY C h₀ W all) n bD (.func eo env) ((execs [CZ] env).wrap N5 (N6 env) id id) [] s:=by
 refine jA (yF ((Te.ofBool (Ev.o (.bool false) rfl) (C:=C) (k:=k)) _ env h₀ _ s _ (Bg r) S λah az=>?_))
 refine jB (env:=env) (jB (env:=env) (seg_end (.ok (.ret .none)) ⟨rfl,?_,aO.trans a az λz hz=>nomatch hz⟩))
 have:=congrArg List.length hd
 rw[pH] at this
 simp at this;exact SW this hn
end
noncomputable def fu:Bool->List Nat->Bool
 |e,[]=>e
 |true,_::r=>fu false r
 |false,c::r=>if c=92 then fu true r else fu false r
section
variable{C:Cx}{k:Nat}{A:Around}{env:Env}{h₀:Heap}{L G T:Addr}{x:Str}{all:List (Int×Str)}
theorem aO.more{own own':List Addr}{a b c:Shared}(x:aO own a b)(y:aO own' b c)(h: ∀z∈own',z∈own):aO own a c:=aO.trans x y λz hz=>.inl (h z hz)
theorem aO.tk{own:List Addr}{s:Shared}{h':Heap}{t:Nat}(hk: ∀b o,b∉own->s.heap.get? b=some o->h'.get? b=some o):aO own s {s with heap:=h',toks:=t}:=⟨λb o hb e=>hk b o hb e,rfl,bF.rfl'⟩
theorem cG.toB{own:List Addr}{a b:Shared}(x:cG a b):aO own a b:=⟨λb o _ e=>x.get e,x.os,x.gens⟩
theorem St.shrink{sc:Scope}{σ:Sg}{own:Ow}{s:Shared}{av:List Addr}(S:St C sc [] env h₀ σ own s)(pA:IJ σ)(hcell: ∀x∈sc.names,x.2≠.cell)(uO: ∀b∈av,b∈own.av)(hL:env.locals=L)(hm:L∈av):St C sc [] env h₀ σ ⟨av,[L]⟩ s where
 scope:=S.scope
 kind:=S.kind
 glob:=S.glob
 blt:=S.blt
 base:=S.base
 keep:=S.keep
 fresh:=λb hb=>S.fresh b (uO b hb)
 alive:=λb hb=>S.alive b (uO b hb)
 ns:=S.ns
 eN:=by rw[hL];exact .head _
 sub:=λb hb=>by rw[ay.mp hb];exact hm
 cells:=λx hx=>absurd (by rw[<-S.scope];exact hx) (mC hcell (x:=x))
 gb:=λx y c hx=>absurd (by rw[<-S.scope];exact hx) (mC hcell (x:=x))
 free:=S.free
 pe:=S.pe
 vars:=λx f d e=>by
  obtain⟨v,va,sl⟩:=S.vars x f d e
  obtain⟨rfl,hd⟩:=pA x f d e
  exact⟨v,va,Rep.dH sl hd⟩
 inj:=λy z dy dz a e1=>by
  obtain⟨f1,_⟩:=pA y _ _ e1
  cases f1
noncomputable abbrev Bk(env:Env)(p:Pos):List Frame:=[zK (gK1 env) (N6 env) id id env (.func eo env) p]
noncomputable abbrev xZ(env:Env)(G:Addr):Code:=.forLoop (Cs CY) (.ref G) (fBody CY) [] env
theorem L7{Pt:Nat->Array Value->Prop}{pC:Nat->Heap->Prop}{XW:Nat->Addr->Heap->Prop}{p:Pos}(W:WalksT C.prog C.w (A.over (xZ env G) (Bk env p)) G [G,T] [G,T] x.cps.size Pt pC XW)
 (hP: ∀i vals,Pt i vals-> ∃t c u,x.cps[i]? =some c/\ vals= #[.int i t,.str ⟨#[c]⟩ u]) (nR: ∀i h,pC i h-> ∀b∈[G,T],(h.get? b).isSome=true) (r:bH A (k+1)) (L8:L≠G/\ L≠T) (hx:x.length<=sizeLine):
 ∀(rest:List Nat) (i:Nat) (e:Bool) (last:Int) (n:Nat) (bD s:Shared),x.cps.toList.drop i=rest->i<=x.cps.size->n<=all.length->all.drop (all.length-n)=aZ e rest i last->fu e rest=false->
  St C yH [] env h₀ (N4 x last e) ⟨[L,G,T],[L]⟩ s->pC i s.heap->aO [L,G,T] bD s->
  Seg (model C.prog C.w) A (gR [L,G,T]) (gY C h₀ [L,G,T] all) n bD (xZ env G) ((model C.prog C.w).den (xZ env G)) (Bk env p) s:=by
 have HT: ∀b∈[G,T],b∉[L]:=λb hb hm=>by
  rw[ay.mp hm] at hb
  rcases aB.mp hb with e|hb
  · exact L8.1 e
  · exact L8.2 (ay.mp hb)
 intro rest
 induction rest with
 |nil=>
  intro i e last n bD s hr hi hn hd Be S st a
  have Be:e=false:=Be
  subst Be
  have p_:i=x.cps.size:=by
   have:=congrArg List.length hr
   simp at this;exact RY this hi
  subst p_
  refine qB (W.done s _ _ st λh' tk hk=>?_)
  have S':=S.zu (s':={s with heap:=h',toks:=tk}) (wr:=[G,T]) hk (λb hb=>.tail _ hb) HT
  exact Bf (yI r S' hn hd (a.more (own':=[G,T]) (aO.tk hk) λz hz=>.tail _ hz))
 |cons c rest ih=>
  intro i e last n bD s hr hi hn hd Be S st a
  have jP:i<x.cps.size:=by
   have:=congrArg List.length hr
   simp at this;exact Rw this
  have hci:x.cps[i]? =some c:=by
   have:=congrArg (λl:List Nat=>l[0]?) hr
   simpa using this
  have v_:x.cps.toList.drop (i+1)=rest:=by
   have:=congrArg (List.drop 1) hr
   rw[List.drop_drop] at this
   simpa using this
  refine qB (W.item i s _ _ jP st λTt vals h' tk hp htt hT hm hk=>?_)
  refine bk λG hG=>?_
  obtain⟨t,c',u,qq,rfl⟩:=hP i vals hp
  refine hG ?_;clear hG G
  obtain rfl:=Option.some.inj ((hci).symm.trans qq)
  refine W.go _ _ _ i Tt {s with heap:=h',toks:=tk} _ _ hm λJE EV E4=>?_
  have keep: ∀b o,b∉[G,T]->s.heap.get? b=some o->JE.get? b=some o:=λb o hb e=>E4 b o hb (hk b o hb e)
  have S':=S.jO (s':={s with heap:=JE,toks:=tk}) (wr:=[G,T]) (wr':=[]) keep (λb hb=>.tail _ hb) HT (nR _ _ EV) (λ_ h=>nomatch h) λ_ h=>nomatch h
  have a':aO [L,G,T] bD {s with heap:=JE,toks:=tk}:=a.more (own':=[G,T]) (aO.tk keep) λz hz=>.tail _ hz
  have rp:Rep C.wc JE (λ_=>True) (.ref Tt) (.tup [.int i,.str ⟨#[c]⟩]):=by
   refine bk λG hG=>?_
   obtain⟨o,ho,hc,nn,hd⟩:=hT
   refine hG ?_;clear hG G
   exact⟨Tt,_,rfl,trivial,⟨o,E4 Tt o (W.apart i Tt h' hm) ho,hc,nn,hd⟩,by show 2<=sizeLine;decide,_,_,rfl,⟨t,rfl⟩,_,_,rfl,⟨⟨u,rfl⟩,by show 1<=sizeLine;decide⟩,rfl⟩
  have rm:bH (A.over (xZ env G) (Bk env p)) k:=xd r
  refine qU (C:=C) (x:="pos") (y:="ch") rm S' rp rfl rfl ⟨.inl rfl,ai⟩ ⟨.inl rfl,ai⟩ λaE a₂ bK=>?_
  have L_:pC (i+1) aE.heap:=W.frame _ _ _ EV λb hb o e=>a₂.heap b o (HT b hb) e
  have a'':aO [L,G,T] bD aE:=a'.more a₂ λz hz=>by rw[ay.mp hz];exact .head _
  have rO:env.scope.isCoroutine=false:=by rw[S.scope];rfl
  have p_:interactive env=false:=by unfold interactive;rw[S.scope];rfl
  let τ:Sg:=[("addr",false,.str x),("pos",false,.int i),("escape",false,.bool e),("ch",false,.str ⟨#[c]⟩)]
  have dX:St C yH [] env h₀ τ ⟨[L,G,T],[L]⟩ aE:=bK.weak (Sub.le ⟨rfl,rfl,rfl,rfl,trivial⟩)
  have yld: ∀(e':Bool) (y:Str) (rest':List (Int×Str)) (cP:Shared) (ve:PySem.Expr) (yp pp:Pos) (K:Flow->Sem Fin) (H:Value->Sem Fin),St C yH [] env h₀ τ ⟨[L,G,T],[L]⟩ cP->pC (i+1) cP.heap->aO [L,G,T] bD cP->Ev C yH [] k τ ve .any (wZ ((i:Int),y))->
   all.drop (all.length-n)=((i:Int),y)::rest'->
   (∀m iJ,n=m+1->all.drop (all.length-m)=rest'->m<all.length->St C yH [] env h₀ τ ⟨[L,G,T],[L]⟩ iJ->pC (i+1) iJ.heap->Seg (model C.prog C.w) A (gR [L,G,T]) (gY C h₀ [L,G,T] all) m iJ (xZ env G) (K .next) (Bk env p) iJ)->
   Seg (model C.prog C.w) A (gR [L,G,T]) (gY C h₀ [L,G,T] all) n bD (xZ env G) ((exec (.Expr (.Yield (some ve) yp) pp) env).wrap K H id id) (Bk env p) cP:=by
   intro e' y rest' cP ve yp pp K H gf um fm ev nW kk
   refine bk λG hG=>?_
   obtain⟨m,rfl,zv,Yn,Ma⟩:=L6 nW hn
   refine hG ?_;clear hG G
   refine Bj rfl rfl rfl rO p_ (ev _ env h₀ _ cP _ rm gf λv cR g_ rp IM hk=>?_)
   have iF:=gf.cX g_
   refine⟨Ma,_,zv,?_,rp.any,?_,?_⟩
   · exact fm.more g_ λz hz=>nomatch hz
   · exact λb hb=>iF.alive b hb
   intro iJ hc
   refine hk iJ ?_
   have jk:=iF.compat (s':=iJ) (λy f d h=>by
    have: ∀q∈τ,q.2.1=false/\ q.2.2.sc=true:=by
     intro q hq
     simp only[τ,aB,ai,or_false] at hq
     rcases hq with rfl|rfl|rfl|rfl<;>exact⟨rfl,rfl⟩
    have gen: ∀l:Sg,(∀q∈l,q.2.1=false/\ q.2.2.sc=true)->l.get y=some (f,d)->f=false/\ d.sc=true:=by
     intro l
     induction l with
     |nil=>intro _ h;cases h
     |cons q l ih=>
      obtain⟨z,g,dd⟩:=q
      intro h1 h2
      rcases Sg.bO h2 with⟨e0,h2⟩|⟨_,h2⟩
      · cases h2;exact h1 _ (.head _)
      · exact ih (λq hq=>h1 q (.tail _ hq)) h2
    exact gen τ this h) hc
   have C0:pC (i+1) cR.heap:=W.frame _ _ _ um λb hb o e=>g_.get e
   have C3:pC (i+1) iJ.heap:=W.frame _ _ _ C0 λb hb o e=>hc b o (.inl (.tail _ hb)) e
   exact kk m iJ rfl Yn Ma jk C3
  have iG: ∀(e':Bool) (m:Nat) (n_ cP:Shared) (pv px pp:Pos) (kn:Nat) (K:Flow->Sem Fin) (H:Value->Sem Fin),m<=all.length->all.drop (all.length-m)=aZ e' rest (i+1) i->fu e' rest=false->aO [L,G,T] n_ cP->St C yH [] env h₀ τ ⟨[L,G,T],[L]⟩ cP->pC (i+1) cP.heap->
   (∀cR,Seg (model C.prog C.w) A (gR [L,G,T]) (gY C h₀ [L,G,T] all) m n_ (xZ env G) ((model C.prog C.w).den (xZ env G)) (Bk env p) cR->Seg (model C.prog C.w) A (gR [L,G,T]) (gY C h₀ [L,G,T] all) m n_ (xZ env G) (K .next) (Bk env p) cR)->
   Seg (model C.prog C.w) A (gR [L,G,T]) (gY C h₀ [L,G,T] all) m n_ (xZ env G) ((exec (.Assign [.Name "escape" px] (.Constant (.bool e') kn pv) pp) env).wrap K H id id) (Bk env p) cP:=by
   intro e' m n_ cP pv px pp kn K H hm qt C4 fm gf um kk
   refine sE ((cH.assign (C:=C) (sc:=yH) (ro:=[]) (k:=k) (σ:=τ) (P:=λaq fl=>fl= .next/\ Le (N4 x i e') aq) (aP.jg (md:=.any) (Ev.gB (b:=e')) rfl) ⟨.inl rfl,ai⟩ ⟨rfl,Sub.le ⟨rfl,rfl,rfl,trivial⟩⟩) _ env h₀ _ cP _ rm gf λf fl fF GN CE kF o1 o2 jk fi pq=>?_)
   obtain⟨rfl,hle⟩:=pq
   subst fi
   have hL:env.locals=L:=ay.mp gf.eN
   have Yo:=(jk.weak hle).shrink (av:=[L,G,T]) (L:=L) (IL _ _ _) (by decide) (λb hb=>by
    rcases aB.mp hb with rfl|hb
    · rw[<-hL];exact jk.sub _ jk.eN
    · exact o1 b (.tail _ hb) (HT b hb)) hL (.head _)
   exact kk fF (ih (i+1) e' i m n_ fF v_ jP hm qt C4 Yo (W.frame _ _ _ um λb hb o e=>kF.heap b o (HT b hb) e) (fm.more kF λz hz=>by rw[ay.mp hz];exact .head _))
  have evp: ∀{p1:Pos},Ev C yH [] k τ (.Name "pos" p1) .any (.int i):=Ev.o _ rfl
  have Yp: ∀{p1:Pos},Ev C yH [] k τ (.Name "ch" p1) .any (.str ⟨#[c]⟩):=Ev.o _ rfl
  have Yq:(⟨#[c]⟩:Str).length=1:=rfl
  have aF:sizeLine=16777216:=rfl
  refine jA (yF ((Te.ofBool (Ev.o (.bool e) rfl) (C:=C) (k:=k) (σ:=τ)) _ env h₀ _ aE _ rm dX λaV cL=>?_))
  have gf:=dX.cX cL
  have G6:pC (i+1) aV.heap:=W.frame _ _ _ L_ λb hb o e=>cL.get e
  have fm:aO [L,G,T] bD aV:=a''.more cL λz hz=>nomatch hz
  cases e with
  |true=>
   have nW:all.drop (all.length-n)=((i:Int),Str.ofString "\\" ++⟨#[c]⟩)::aZ false rest (i+1) i:=hd
   refine jA (yld true _ _ aV _ _ _ _ _ gf G6 fm (Ev.tuple (md:=.any) (Ar.cons evp (Ar.cons (Ev.bin (Ev.iB (x:="\\") (by decide)) Yp (ak.gM (by rw[Yq];decide))|>.up (.inl rfl)) Ar.nil)) (cB rfl)) nW λm iJ hm qt CO iF C0=>?_)
   exact jA (iG false m iJ iJ _ _ _ _ _ _ (Nat.le_of_lt CO) qt Be (aO.refl _ _) iF C0 λcR h=>jB (env:=env) (jB (env:=env) (seg_again rfl h)))
  |false=>
   refine jA (yF ((Te.cmp Yp (Ev.iB (x:="\\") (by decide)) (aH.vo (c:=c) (n:=92) rfl)) _ env h₀ _ aV _ rm gf λcP g_=>?_))
   have iF:=gf.cX g_
   have um:pC (i+1) cP.heap:=W.frame _ _ _ G6 λb hb o e=>g_.get e
   have kF:aO [L,G,T] bD cP:=fm.more g_ λz hz=>nomatch hz
   by_cases hc:c=92
   · subst hc
     have nW:all.drop (all.length-n)=aZ true rest (i+1) i:=by rw[hd];rfl
     have C4:fu true rest=false:=Be
     exact jA (iG true n bD cP _ _ _ _ _ _ hn nW C4 kF iF um λcR h=>jB (env:=env) (jB (env:=env) (jB (env:=env) (seg_again rfl h))))
   · have hb:(c==92)=false:=by simpa using hc
     rw[hb]
     have nW:all.drop (all.length-n)=((i:Int),(⟨#[c]⟩:Str))::aZ false rest (i+1) i:=hd.trans (aa hc)
     have C4:fu false rest=false:=(aa hc).symm.trans Be
     refine jA (yld false _ _ cP _ _ _ _ _ iF um kF (Ev.tuple (md:=.any) (Ar.cons evp (Ar.cons Yp Ar.nil)) (cB rfl)) nW λm iJ hm qt CO jk C3=>?_)
     have hL:env.locals=L:=ay.mp jk.eN
     refine jB (env:=env) (jB (env:=env) (jB (env:=env) (seg_again rfl (ih (i+1) false i m iJ iJ v_ jP (Nat.le_of_lt CO) qt C4 (jk.weak (Sub.le ⟨rfl,rfl,rfl,trivial⟩)) C3 (aO.refl _ _)))))
end
section
variable{C:Cx}{k:Nat}{A:Around}{env:Env}{h₀:Heap}{L G T:Addr}{x:Str}
noncomputable def bJ(x:Str):List (Int×Str):=aZ false x.cps.toList 0 0
noncomputable def fW(x:Str):Bool:=fu false x.cps.toList
theorem C5{s:Shared}(yt:bT C "enumerate" (.type "enumerate"))(r:bH A (k+1))(S:St C yH [] env h₀ [("addr",false,.str x)] ⟨[L],[L]⟩ s)(hx:x.length<=sizeLine)(mF:fW x=false):
 Seg (model C.prog C.w) A (gR [L,s.heap.objs.size+1,s.heap.objs.size]) (gY C h₀ [L,s.heap.objs.size+1,s.heap.objs.size] (bJ x)) (bJ x).length s (.func eo env) ((model C.prog C.w).den (.func eo env)) [] s:=by
 have hL:env.locals=L:=ay.mp S.eN
 have hkind:env.scope.kind= .function:=by rw[S.scope];rfl
 obtain⟨v,va,sl⟩:=S.vars "addr" _ _ rfl
 obtain⟨⟨t,rfl⟩,_⟩:=sl
 have hka:env.kindOf "addr" =some .local:=by unfold Env.kindOf;rw[S.scope];rfl
 obtain⟨m,mT,hm⟩: ∃m,s.heap.Ns L m/\ m "addr" =some (.str x t):=by
  rcases va with⟨_,m,n,e⟩|⟨kx,c,e,n⟩
  · exact⟨m,hL▸n,e⟩
  · rcases kx with kx|⟨kx,_⟩<;>rw[hka] at kx<;>cases kx
 refine seg_func ?_
 show Seg _ A _ _ _ _ (.func eo env) ((execs [eo.getD 0 (.Pass default),eo.getD 1 (.Pass default),CY,CZ] env).wrap N5 (N6 env) id id) [] s
 refine jA (sE (wpAny_Assign_Name (wpAny_Constant_int (wpAny_storeName_local (m:=m) (by unfold Env.kindOf;rw[S.scope];rfl) (by rw[hL];exact mT) (λbX G7 kT=>?_) (by rw[hkind];rfl))) (by cases env;cases S.scope;rfl)))
 rw[hL] at G7 kT
 refine jA (sE (wpAny_Assign_Name (wpAny_Constant_bool (wpAny_storeName_local (by unfold Env.kindOf;rw[S.scope];rfl) (by rw[hL];exact G7) (λoh C6 ud=>?_) (by rw[hkind];rfl))) (by cases env;cases S.scope;rfl)))
 rw[hL] at C6 ud
 have hsz:oh.objs.size=s.heap.objs.size:=ud.1.trans kT.1
 have zL: ∀b,b≠L->oh.get? b=s.heap.get? b:=λb hb=>(ud.2 b hb).trans (kT.2 b hb)
 have hLh:h₀.get? L=none:=S.fresh L (.head _)
 have G8: ∀b o,h₀.get? b=some o->oh.get? b=some o:=λb o e=>by
  rw[zL b λz=>by rw[z,hLh] at e;cases e];exact S.keep b o e
 generalize C7:({s with heap:=oh,toks:=s.toks+1+1+1}:Shared)=aE
 have dJ:aE.heap=oh:=by rw[<-C7]
 have Mb:aO [L] s aE:=by
  rw[<-C7]
  exact⟨λb o hb e=>(zL b (λz=>hb (by rw[z];exact .head _))).trans e,rfl,bF.rfl'⟩
 refine jA (Fp (λ_=>rfl) ?_)
 have Mc:C.B aE.heap:=by rw[dJ];exact C.keeps _ _ S.base G8
 have he:eval (GI CY) env=(do callWith ⟨8,19,8,34⟩ (<-eval (.Name "enumerate" ⟨8,19,8,28⟩) env) [] (backTo ⟨8,19,8,34⟩ (starEach [.Name "addr" ⟨8,29,8,33⟩] env)) (backToKw ⟨8,19,8,34⟩ (keywordEach [] env))):=by rfl
 show wpAny _ _ (eval (GI CY) env) _ _ _
 rw[he]
 obtain⟨mg,mb,g1,g2,g3,g4⟩:=yt _ Mc
 have Lb:env.kindOf "enumerate" =some .globalImplicit:=by unfold Env.kindOf;rw[S.scope];rfl
 refine ao (wpAny_Name ?_ (by decide))
 rw[loadName_read hkind Lb]
 refine PySem.Calls.loadGlobal_builtin (by rw[S.glob];exact g1) g2 (by rw[S.blt];exact g3) g4 ?_
 refine callWith_of (P:=C.B) rfl aA.typ ?_
 refine di rfl (PySem.Calls.spliced_cons (wpAny_Name (lT hkind hka (by rw[hL,dJ];exact C6) (by rw[aa (by decide),aa (by decide)];exact hm) (PySem.Calls.spliced_nil ⟨Mc,?_⟩)) (by decide)))
 refine call_enumerate_str λh' hE hT tF E4=>wpAny_pyIter_enum hE λp=>?_
 rw[dJ,hsz] at hE hT tF
 have r':bH (A.over (xZ env (s.heap.objs.size+1)) (Bk env p)) k:=xd r
 rw[dJ,hsz]
 have mG:s.heap.get? (s.heap.objs.size+1)=none:=by
  cases e:s.heap.get? (s.heap.objs.size+1) with
  |none=>rfl
  |some o=>exact absurd (fY e) (Nat.not_lt.mpr (Nat.le_succ _))
 have qC:s.heap.get? s.heap.objs.size=none:=bg _
 have JI:(s.heap.get? L).isSome=true:=S.alive L (.head _)
 have L8:L≠s.heap.objs.size+1/\ L≠s.heap.objs.size:=by
  constructor
  · intro z;rw[z,mG] at JI;cases JI
  · intro z;rw[z,qC] at JI;cases JI
 have fin: ∀(pC:Nat->Heap->Prop),Draws C.prog C.w (A.over (xZ env (s.heap.objs.size+1)) (Bk env p)).in1 s.heap.objs.size [s.heap.objs.size] x.cps.size (λi v=>∃c u,x.cps[i]? =some c/\ v= .str ⟨#[c]⟩ u) pC->pC 0 h'->
  Seg (model C.prog C.w) A (gR [L,s.heap.objs.size+1,s.heap.objs.size]) (gY C h₀ [L,s.heap.objs.size+1,s.heap.objs.size] (bJ x)) (bJ x).length s (xZ env (s.heap.objs.size+1)) ((model C.prog C.w).den (xZ env (s.heap.objs.size+1))) (Bk env p) {aE with heap:=h'}:=by
  intro pC Dr st0
  have W:=WalksT.enumerateD (prog:=C.prog) (w:=C.w) Dr (s.heap.objs.size+1) (Nat.succ_ne_self _) (λm=>Nat.succ_ne_self _ (ay.mp m)) (by simp)
  have alE:(h'.get? (s.heap.objs.size+1)).isSome=true:=by rw[hE];rfl
  have alT:(h'.get? s.heap.objs.size).isSome=true:=by obtain⟨o,ho,_⟩:=hT;rw[ho];rfl
  have Yr: ∀b o,oh.get? b=some o->h'.get? b=some o:=λb o e=>E4 b o (by rw[dJ];exact e)
  have Me:h'.Ns L _:=cT C6 λo e=>Yr _ o e
  refine L7 (W:=W) (λi vals hp=>?_) (λi h st b hb=>?_) r L8 hx x.cps.toList 0 false 0 _ s {aE with heap:=h'} rfl (gi _) (aR _) ?_ mF ?_ ⟨⟨_,hE⟩,st0⟩ ?_
  · obtain⟨t',y,⟨c,u,hc,rfl⟩,rfl⟩:=hp
    exact⟨t',c,u,hc,rfl⟩
  · obtain⟨⟨old,he⟩,st⟩:=st
    rcases aB.mp hb with rfl|hb
    · rw[he];rfl
    · obtain⟨o,ho⟩:=Dr.live _ _ st
      rw[ay.mp hb,ho];rfl
  · rw[Nat.sub_self];rfl
  · refine St.mk1 (m:=_) S.scope S.kind S.glob S.blt S.base (λb o e=>Yr b o (G8 b o e)) hL (.head _) (λb hb=>?_) (λb hb=>?_) (by decide) (by decide) Me (λy f d e=>?_)
    · rcases aB.mp hb with rfl|hb
      · exact hLh
      · have:s.heap.get? b=none:=by
         rcases aB.mp hb with rfl|hb
         · exact mG
         · rw[ay.mp hb];exact qC
        cases q:h₀.get? b with
        |none=>rfl
        |some o=>rw[S.keep b o q] at this;cases this
    · rcases aB.mp hb with rfl|hb
      · obtain⟨_,_,_,q,_⟩:=Me;show(h'.get? _).isSome=true;rw[q];rfl
      · rcases aB.mp hb with rfl|hb
        · exact alE
        · rw[ay.mp hb];exact alT
    · rcases Sg.bO e with⟨e0,e⟩|⟨_,e⟩
      · cases e
        subst e0
        exact⟨rfl,rfl,.str x t,by rw[aa (by decide),aa (by decide)];exact hm,λ_ _=>⟨⟨_,rfl⟩,hx⟩⟩
      · rcases Sg.bO e with⟨e0,e⟩|⟨_,e⟩
        · cases e
          subst e0
          exact⟨rfl,rfl,.int 0 s.toks,by rw[aa (by decide),af rfl],λ_ _=>⟨_,rfl⟩⟩
        · rcases Sg.bO e with⟨e0,e⟩|⟨_,e⟩
          · cases e
            subst e0
            exact⟨rfl,rfl,.bool false,by rw[af rfl],λ_ _=>rfl⟩
          · cases e
  · have Mf:aO [L] aE {aE with heap:=h'}:=⟨λb o _ e=>Yr b o (by rw[<-dJ];exact e),rfl,bF.rfl'⟩
    have z:=Mb.more Mf λz hz=>hz
    exact⟨λb o hb e=>z.heap b o (λq=>hb (by rw[ay.mp q];exact .head _)) e,z.os,z.gens⟩
 cases Mg:x.cps.all (· <128)
 · exact fin _ (Draws.strWide (A:=(A.over (xZ env (s.heap.objs.size+1)) (Bk env p)).in1) r'.1 s.heap.objs.size x t) (by simpa [strIterType,Mg] using hT)
 · exact fin _ (Draws.strAscii (A:=(A.over (xZ env (s.heap.objs.size+1)) (Bk env p)).in1) r'.1 s.heap.objs.size x t) (by simpa [strIterType,Mg] using hT)
end
section
variable{C:Cx}{k:Nat}{A:Around}{env:Env}{h₀:Heap}{L G:Addr}{x:Str}
theorem St.C8{sc:Scope}{ro:List Str}{σ:Sg}{own:Ow}{s s':Shared}(S:St C sc ro env h₀ σ own s)(h:s'.heap=s.heap):St C sc ro env h₀ σ own s':=
 {scope:=S.scope,kind:=S.kind,glob:=S.glob,blt:=S.blt,base:=S.base,keep:=by rw[h];exact S.keep,fresh:=S.fresh,alive:=by rw[h];exact S.alive,ns:=by rw[h];exact S.ns,eN:=S.eN,sub:=S.sub,
  cells:=by rw[h];exact S.cells,gb:=S.gb,free:=S.free,pe:=S.pe,vars:=by rw[h];exact S.vars,inj:=by rw[h];exact S.inj}
theorem qD(s:Shared)(g:Nat)(st:GenState):(s.setGen g st).heap=s.heap:=rfl
theorem f_(s:Shared)(g:Nat)(st:GenState):(s.setGen g st).gens.size=s.gens.size:=by unfold Shared.setGen;simp
theorem l_(s:Shared){g i:Nat}(st:GenState)(h:i≠g):(s.setGen g st).gens[i]? =s.gens[i]?:=by unfold Shared.setGen;simp[Array.getElem?_setIfInBounds,Ne.symm h]
theorem Bl(s:Shared){g:Nat}(st:GenState)(h:g<s.gens.size):(s.setGen g st).gens[g]? =some st:=by unfold Shared.setGen;simp[Array.getElem?_setIfInBounds,h]
theorem jr{s:Shared}{g:Nat}{st:GenState}(hb:st.bare=true)(h: ∀y∈s.gens,y.bare=true): ∀y∈(s.setGen g st).gens,y.bare=true:=by
 intro y hy
 unfold Shared.setGen at hy
 rcases Array.mem_or_eq_of_mem_setIfInBounds hy with hy|rfl
 · exact h _ hy
 · exact hb
end
structure GJ2(C:Cx)(A:Around)(h₀:Heap)(L G:Addr)(x:Str)(g:Nat)(wr:List Addr)(ds:List D)(s:Shared)(gs:GenState)(m:Nat):Prop where
 gw:G∉wr
 wh: ∀b∈wr,h₀.get? b=none
 lw:L∈wr
 hm:m<=(bJ x).length
 hd:ds=((bJ x).drop ((bJ x).length-m)).map wZ
 al: ∀b∈wr,(s.heap.get? b).isSome=true
 hg:s.gens[g]? =some gs
 go: ∀iJ,(∀b o,(b∈wr \/(h₀.get? b).isSome=true)->s.heap.get? b=some o->iJ.heap.get? b=some o)->gs.Goes (model C.prog C.w) A.in1 (gR wr) (gY C h₀ wr (bJ x)) m (.send .none) iJ
structure GJ1(C:Cx)(env:Env)(h₀:Heap)(L:Addr)(x:Str)(g:Nat)(wr:List Addr)(ds:List D)(s:Shared):Prop where
 hd:ds=(bJ x).map wZ
 hw:wr=[L]
 hg:s.gens[g]? =some (.fresh (.func eo env))
 st:St C yH [] env h₀ [("addr",false,.str x)] ⟨[L],[L]⟩ s
structure gJ(C:Cx)(A:Around)(env:Env)(h₀:Heap)(L G:Addr)(x:Str)(g n:Nat)(wr:List Addr)(ds:List D)(s:Shared):Prop where
 ng:n<=g
 gg:s.heap.IsGen G g
 kp: ∀b o,h₀.get? b=some o->s.heap.get? b=some o
 or:GJ1 C env h₀ L x g wr ds s \/ ∃gs m,GJ2 C A h₀ L G x g wr ds s gs m
section
variable{C:Cx}{k:Nat}{A:Around}{env:Env}{h₀:Heap}{L G:Addr}{x:Str}{g n:Nat}
theorem C9{W wr:List Addr}{s ah:Shared}{yG:GenState}{m:Nat}{d:D}{ds:List D}{v:Value}{Q:Option Value->Shared->Prop}(x_:n<=g)(hg:s.heap.IsGen G g)(cJ: ∀b o,h₀.get? b=some o->s.heap.get? b=some o)(vY:g<s.gens.size)
 (IP:G∉W) (IQ: ∀b∈W,h₀.get? b=none) (IS:L∈W) (nK: ∀b∈W,b∈wr \/s.heap.get? b=none) (wj: ∀b∈wr,b∈W) (nR: ∀b∈wr,(s.heap.get? b).isSome=true) (jK:d::ds=((bJ x).drop ((bJ x).length-(m+1))).map wZ) (hm:m+1<=(bJ x).length)
 (Mh:yG.bare=true) (aaB:L∈wr)
 (hY:gY C h₀ W (bJ x) m (s.setGen g .running) v ah λr' iJ=>yG.Goes (model C.prog C.w) A.in1 (gR W) (gY C h₀ W (bJ x)) m r' iJ)
 (q: ∀v s',wu C A G n (gJ C A env h₀ L G x g n) wr ds d v s s'->Q (some v) s'):Q (some v) (ah.setGen g yG):=by
 refine bk λG hG=>?_
 obtain⟨jP,it,hit,a,rp,al,go⟩:=hY
 refine hG ?_;clear hG G
 have Mi:(s.heap.get? G).isSome=true:=by obtain⟨o,_,_,ho,_⟩:=hg;rw[ho];rfl
 have G9:ah.heap.IsGen G g:=by
  obtain⟨o,nm,qn,ho,r⟩:=hg
  exact⟨o,nm,qn,a.heap G o IP ho,r⟩
 have Mj: ∀b o,h₀.get? b=some o->ah.heap.get? b=some o:=λb o e=>a.heap b o (λm=>by cases (IQ b m).symm.trans e) (cJ b o e)
 have hsz:s.gens.size<=ah.gens.size:=by have:=a.gens.1;rwa [f_] at this
 refine q v _ λtarget Q' ht q'=>Fq (g:=g) G9 ?_
 have hd:d=wZ it/\ ds=((bJ x).drop ((bJ x).length-m)).map wZ:=by
  have h1:(bJ x).length-(m+1)<(bJ x).length:=by exact Sy hm
  rw[pD h1,bN] at jK
  injection jK with e1 e2
  have h2:(bJ x)[(bJ x).length-(m+1)]? =some it:=by rw[show(bJ x).length-(m+1)=(bJ x).length-1-m by exact Sb];exact hit
  rw[cE h1] at h2
  injection h2 with h2
  refine⟨by rw[e1,h2],?_⟩
  rw[e2]
  congr 2
  exact U3 hm
 refine q' (ah.setGen g yG) W ⟨λb o hb e=>a.heap b o (λhm=>?_) e,a.os,?_,λi hi=>?_,λhb=>jr Mh (a.gens.2.2 ?_)⟩ nK (λb hb=>?_) al ?_ (by rw[hd.1];exact rp)
 · rcases nK b hm with h|h
   · exact hb h
   · cases (h).symm.trans e
 · rw[f_];exact hsz
 · rw[l_ _ _ (NK hi x_)]
   have:=a.gens.2.1 i (by rw[f_];exact J9 hi vY x_)
   rw[this,l_ _ _ (NK hi x_)]
 · exact jr rfl hb
 · exact al b (wj b hb)
 · exact⟨x_,G9,Mj,.inr ⟨yG,m,IP,IQ,IS,Q4 hm,hd.2,al,Bl _ _ (QW vY hsz),λiJ hc=>go iJ hc⟩⟩
theorem qE{h:Heap}{a:Addr}{g:Nat}(x:h.IsGen a g):(h.get? a).isSome=true:=by obtain⟨o,_,_,z,_⟩:=x;rw[z];rfl
theorem G_{W wr:List Addr}{s ah:Shared}{h':Heap}(x_:n<=g)(vY:g<s.gens.size)(a:aO W (s.setGen g .running) ah)(hk: ∀b o,ah.heap.get? b=some o->h'.get? b=some o)(nK: ∀b∈W,b∈wr \/s.heap.get? b=none):
 jh n wr s {ah.setGen g .finished with heap:=h'}:=by
 have hsz:s.gens.size<=ah.gens.size:=by have:=a.gens.1;rwa [f_] at this
 refine⟨λb o hb e=>hk b o (a.heap b o (λhm=>?_) e),a.os,?_,λi hi=>?_,λhb=>jr rfl (a.gens.2.2 (jr rfl hb))⟩
 · rcases nK b hm with h|h
   · exact hb h
   · cases (h).symm.trans e
 · show s.gens.size<=(ah.setGen g .finished).gens.size
   rw[f_];exact hsz
 · show(ah.setGen g .finished).gens[i]? =_
   rw[l_ _ _ (NK hi x_)]
   have:=a.gens.2.1 i (by rw[f_];exact J9 hi vY x_)
   rw[this,l_ _ _ (NK hi x_)]
theorem gIt(Bh:C.B h₀)(yt:bT C "enumerate" (.type "enumerate"))(mF:fW x=false)(r:bH A (k+2))(hL:env.locals=L)(hx:x.length<=sizeLine):
 It C A G n (λb=>b=G \/(h₀.get? b).isSome=true) (gJ C A env h₀ L G x g n) where
 step:=λwr d ds s Q J q=>by
  have aaC:=J
  obtain⟨x_,hg,cJ,J⟩:=J
  rcases J with⟨jK,rfl,wg,S⟩|⟨gs,m,IP,IQ,IS,hm,jK,nR,wg,go⟩
  · have vY:g<s.gens.size:=by
     obtain⟨h,_⟩:=rC.mp wg;exact h
    have S':St C yH [] env h₀ [("addr",false,.str x)] ⟨[L],[L]⟩ (s.setGen g .running):=S.C8 rfl
    have z:=C5 (A:=A.in1) (k:=k) yt (w_ r) S' hx mF
    rw[qD] at z
    have oq:(bJ x).length≠0:=λe=>by
     have:bJ x=[]:=gh e
     rw[this] at jK;cases jK
    obtain⟨m,hm⟩: ∃m,(bJ x).length=m+1:=⟨(bJ x).length-1,Rp oq⟩
    have mG:s.heap.get? (s.heap.objs.size+1)=none:=by
     cases e:s.heap.get? (s.heap.objs.size+1) with
     |none=>rfl
     |some o=>exact absurd (fY e) (Nat.not_lt.mpr (Nat.le_succ _))
    have qC:s.heap.get? s.heap.objs.size=none:=bg _
    have Mi:=qE hg
    have N7: ∀b,s.heap.get? b=none->h₀.get? b=none:=λb e=>by
     cases z:h₀.get? b with
     |none=>rfl
     |some o=>cases (cJ b o z).symm.trans e
    have JI:=S.alive L (.head _)
    have z':Seg (model C.prog C.w) A.in1 (gR [L,s.heap.objs.size+1,s.heap.objs.size]) (gY C h₀ [L,s.heap.objs.size+1,s.heap.objs.size] (bJ x)) (m+1) (s.setGen g .running) (.func eo env) ((model C.prog C.w).den (.func eo env)) [] (s.setGen g .running):=hm▸z
    refine kH (n:=m+1) r.1 (C.nolimit _ (C.keeps _ _ S.base cJ)) r.lt hg wg ⟨rfl,z'⟩ (λv ah yG hb hy=>?_) (λah hp h' hk=>?_)
    · refine C9 (W:=[L,s.heap.objs.size+1,s.heap.objs.size]) (wr:=[L]) (m:=m) x_ hg cJ vY ?_ ?_ (.head _) ?_ ?_ ?_ ?_ (QX hm) hb (.head _) hy q
      · intro zv
        rcases aB.mp zv with e|zv
        · have:=S.fresh L (.head _)
          obtain⟨o,nm,qn,ho,hc,hd,_⟩:=hg
          obtain⟨mm,oo,es,ep,h1,h2,_⟩:=S.ns
          simp only[hL,<-e,ho] at h1
          injection h1 with h1;subst h1
          cases (hd).symm.trans h2
        · rcases aB.mp zv with e|zv
          · rw[e,mG] at Mi;cases Mi
          · rw[ay.mp zv,qC] at Mi;cases Mi
      · intro b hb
        rcases aB.mp hb with rfl|hb
        · exact S.fresh _ (.head _)
        · rcases aB.mp hb with rfl|hb
          · exact N7 _ mG
          · rw[ay.mp hb];exact N7 _ qC
      · intro b hb
        rcases aB.mp hb with rfl|hb
        · exact .inl (.head _)
        · rcases aB.mp hb with rfl|hb
          · exact .inr mG
          · rw[ay.mp hb];exact .inr qC
      · exact λb hb=>by rw[ay.mp hb];exact .head _
      · exact λb hb=>by rw[ay.mp hb];exact JI
      · simp only[jK,hm,Nat.sub_self];rfl
    · exact absurd hp.1 (ZN)
  · have vY:g<s.gens.size:=by
     obtain⟨h,_⟩:=rC.mp wg;exact h
    cases m with
    |zero=>
     simp only[Nat.sub_zero,List.drop_length] at jK;cases jK
    |succ m=>
     refine kH (n:=m+1) r.1 (C.nolimit _ (C.keeps _ _ Bh cJ)) r.lt hg wg (go (s.setGen g .running) λb o _ e=>e) (λv ah yG hb hy=>?_) (λah hp h' hk=>?_)
     · exact C9 (W:=wr) (wr:=wr) (m:=m) x_ hg cJ vY IP IQ IS (λb hb=>.inl hb) (λb hb=>hb) nR jK hm hb IS hy q
     · exact absurd hp.1 (ZN)
 done:=λwr s Q J q=>by
  obtain⟨x_,hg,cJ,J⟩:=J
  rcases J with⟨jK,rfl,wg,S⟩|⟨gs,m,IP,IQ,IS,hm,jK,nR,wg,go⟩
  · have vY:g<s.gens.size:=by
     obtain⟨h,_⟩:=rC.mp wg;exact h
    have S':St C yH [] env h₀ [("addr",false,.str x)] ⟨[L],[L]⟩ (s.setGen g .running):=S.C8 rfl
    have z:=C5 (A:=A.in1) (k:=k) yt (w_ r) S' hx mF
    rw[qD] at z
    have hm:(bJ x).length=0:=by
     have:=congrArg List.length jK
     simpa using this.symm
    have mG:s.heap.get? (s.heap.objs.size+1)=none:=by
     cases e:s.heap.get? (s.heap.objs.size+1) with
     |none=>rfl
     |some o=>exact absurd (fY e) (Nat.not_lt.mpr (Nat.le_succ _))
    have qC:s.heap.get? s.heap.objs.size=none:=bg _
    have z':Seg (model C.prog C.w) A.in1 (gR [L,s.heap.objs.size+1,s.heap.objs.size]) (gY C h₀ [L,s.heap.objs.size+1,s.heap.objs.size] (bJ x)) 0 (s.setGen g .running) (.func eo env) ((model C.prog C.w).den (.func eo env)) [] (s.setGen g .running):=hm▸z
    refine kH (n:=0) r.1 (C.nolimit _ (C.keeps _ _ Bh cJ)) r.lt hg wg ⟨rfl,z'⟩ (λv ah yG hb hy=>?_) (λah hp h' hk=>?_)
    · exact absurd hy.1 (by rw[hm];exact Nat.not_lt_zero _)
    · have a:=hp.2
      refine q _ (G_ x_ vY a hk λb hb=>?_)
      rcases aB.mp hb with rfl|hb
      · exact .inl (.head _)
      · rcases aB.mp hb with rfl|hb
        · exact .inr mG
        · rw[ay.mp hb];exact .inr qC
  · have vY:g<s.gens.size:=by
     obtain⟨h,_⟩:=rC.mp wg;exact h
    have Ys:m=0:=by
     have:=congrArg List.length jK
     rw[aM,pH] at this
     simp at this;exact SX this hm
    subst Ys
    refine kH (n:=0) r.1 (C.nolimit _ (C.keeps _ _ Bh cJ)) r.lt hg wg (go (s.setGen g .running) λb o _ e=>e) (λv ah yG hb hy=>?_) (λah hp h' hk=>?_)
    · obtain⟨_,_,_,_,_,_,go'⟩:=hy
      exact(go' ah λb o _ e=>e).elim
    · have a:=hp.2
      exact q _ (G_ x_ vY a hk λb hb=>.inl hb)
 frame:=λwr ds s s' mu J a uM=>by
  obtain⟨x_,hg,cJ,J⟩:=J
  have hG: ∀o,s.heap.get? G=some o->s'.heap.get? G=some o:=λo e=>a.heap G o (λm=>(uM G m).1 (.inl rfl)) e
  have pT: ∀b o,h₀.get? b=some o->s'.heap.get? b=some o:=λb o e=>a.heap b o (λm=>(uM b m).1 (.inr (by rw[e];rfl))) (cJ b o e)
  have zB:s'.heap.IsGen G g:=by obtain⟨o,nm,qn,ho,r⟩:=hg;exact⟨o,nm,qn,hG o ho,r⟩
  have jN: ∀st,s.gens[g]? =some st->s'.gens[g]? =some st:=λst e=>by
   obtain⟨h,_⟩:=rC.mp e
   rw[a.gens.2.1 g h];exact e
  have JJ: ∀b o,b∈wr->s.heap.get? b=some o->s'.heap.get? b=some o:=λb o hb e=>a.heap b o (λm=>(uM b m).2 hb) e
  refine⟨x_,zB,pT,?_⟩
  rcases J with⟨jK,rfl,wg,S⟩|⟨gs,m,IP,IQ,IS,hm,jK,nR,wg,go⟩
  · refine .inl ⟨jK,rfl,jN _ wg,S.compat (λy f d e=>?_) λb o hb e=>?_⟩
    · rcases Sg.bO e with⟨e0,e⟩|⟨_,e⟩
      · cases e;exact⟨rfl,rfl⟩
      · cases e
    · rcases hb with hb|hb
      · exact JJ b o hb e
      · obtain⟨o',z⟩:=c_.mp hb
        cases (cJ b o' z).symm.trans e
        exact pT b _ z
  · refine .inr ⟨gs,m,IP,IQ,IS,hm,jK,λb hb=>?_,jN _ wg,λiJ hc=>go iJ λb o hb e=>hc b o hb ?_⟩
    · obtain⟨o,z⟩:=c_.mp (nR b hb)
      rw[JJ b o hb z];rfl
    · rcases hb with hb|hb
      · exact JJ b o hb e
      · obtain⟨o',z⟩:=c_.mp hb
        obtain rfl:=Option.some.inj ((cJ b o' z).symm.trans e)
        exact pT b _ z
 self:=λwr ds s Q J q=>wpAny_pyIter_gen J.gg q
theorem C_{a:Addr}(hf:bu C 2 a)(yt:bT C "enumerate" (.type "enumerate"))(mF:fW x=false):G4 C (k+3) (.ref a) [.str x] ((bJ x).map wZ):=by
 rintro A s _ n h₀ Q r Bh Fv ⟨v,_,rfl,⟨⟨t,rfl⟩,hx⟩,rfl⟩ hn q
 have B:C.B s.heap:=C.keeps _ _ Bh Fv
 refine bk λG hG=>?_
 obtain⟨o,pm,cd,doc,ho,hd,tU⟩:=hf.2 _ B
 refine hG ?_;clear hG G
 refine wpAny_call (codeAny_call_generator (body:=eo) r.lt ho hd rfl rfl rfl tU ?_)
 rw[show bindArgs (Calls.docDef (dI (bW 2)) (pX (bW 2)) (fBody (bW 2)) (fScope (bW 2)) pm cd doc) ⟨[.str x t],[]⟩=(pure [(("addr" :Str),Value.str x t)]:Sem (List (Str×Value))) from rfl]
 refine aJ (wpAny_newFunctionEnv (by show ∀y∈yH.names,y.2≠.cell;decide) (λy hy=>by rw[ay.mp hy];rfl) (λh' mT IE=>⟨(C.nolimit _ B).fresh _ IE,?_⟩) rfl)
 have Hf:s.heap.get? s.heap.objs.size=none:=bg _
 have Mk: ∀b o,s.heap.get? b=some o->h'.get? b=some o:=λb o e=>IE.extBut b o (fj (fY e)) (dh _ e)
 have hsz:h'.objs.size=s.heap.objs.size+1:=by rw[IE.1,Heap.size_push]
 have mG:s.heap.get? h'.objs.size=none:=by
  rw[hsz]
  cases e:s.heap.get? (s.heap.objs.size+1) with
  |none=>rfl
  |some o=>exact absurd (fY e) (Nat.not_lt.mpr (Nat.le_succ _))
 generalize hLe:s.heap.objs.size=L at*
 generalize Bm:newEnv (fScope (bW 2)) L mainGlobals [] (dI (bW 2)++ ".<locals>.") (some a) cd none builtinsNs=env
 have hLn:h'.get? h'.objs.size=none:=bg _
 have aag: ∀(oo:Obj),oo.isFreed=false->(h'.push oo).get? h'.objs.size=some oo:=λoo hf=>cV _ hf
 have Ml: ∀b,s.heap.get? b=none->h₀.get? b=none:=λb e=>by
  cases z:h₀.get? b with
  |none=>rfl
  |some o=>rw[Fv b o z] at e;cases e
 have Fw: ∀oo:Obj,∀g:Nat,∀nm qn:Value,oo={cls:=.type "generator",data:=.fields #[.int g 0,nm,qn]}->(h'.push oo).IsGen h'.objs.size g:=λoo g nm qn e=>⟨oo,nm,qn,by subst e;exact cV _ rfl,by subst e;rfl,by subst e;rfl,by subst e;rfl⟩
 have hG:=Fw _ s.gens.size (.str (dI (bW 2)) s.toks) (.str (dI (bW 2)) (s.toks+1)) rfl
 refine wpAny_pyIter_gen (g:=s.gens.size) (Fw _ s.gens.size _ _ rfl) ?_
 have kp: ∀(oo:Obj) b o,s.heap.get? b=some o->(h'.push oo).get? b=some o:=λoo b o e=>dh _ (Mk b o e)
 have nsp: ∀oo:Obj,(h'.push oo).Ns L _:=λoo=>cT mT λo e=>dh _ e
 have N8: ∀oo:Obj,((h'.push oo).get? L).isSome=true:=λoo=>by obtain⟨_,_,_,z,_⟩:=nsp oo;rw[z];rfl
 have L8:h'.objs.size≠L:=by rw[hsz];exact Nat.succ_ne_self _
 refine q h'.objs.size [L] _ (λb=>b=h'.objs.size \/(h₀.get? b).isSome=true) (gJ C A env h₀ L h'.objs.size x s.gens.size n) ⟨λb o _ e=>kp _ b o e,rfl,?_⟩ (λb hb=>?_) ?_ ⟨hn,Fw _ s.gens.size _ _ rfl,λb o e=>kp _ b o (Fv b o e),.inl ⟨rfl,rfl,?_,?_⟩⟩ λb hb=>?_
 · refine⟨by simp,λi hi=>?_,λh y hy=>?_⟩
   · simp[Array.getElem?_push,fj hi]
   · rcases Array.mem_push.mp hy with hy|rfl
     · exact h _ hy
     · rfl
 · rw[ay.mp hb];exact⟨Hf,N8 _⟩
 · exact gIt Bh yt mF (r.le (Nat.le_succ _)) (by rw[<-Bm];rfl) hx
 · show(s.gens.push _)[s.gens.size]? =_
   simp only[Array.getElem?_push_size,<-Bm];rfl
 · refine St.mk1 (L:=L) (by rw[<-Bm];rfl) rfl (by rw[<-Bm];rfl) (by rw[<-Bm];rfl) Bh (λb o e=>kp _ b o (Fv b o e)) (by rw[<-Bm];rfl) (.head _) (λb hb=>by rw[ay.mp hb];exact Ml _ Hf) (λb hb=>by rw[ay.mp hb];exact N8 _) (by decide) (by decide) (nsp _) (λy f d e=>?_)
   rcases Sg.bO e with⟨e0,e⟩|⟨_,e⟩
   · cases e
     subst e0
     exact⟨rfl,rfl,.str x t,rfl,λ_ _=>⟨⟨_,rfl⟩,hx⟩⟩
   · cases e
 · rcases hb with rfl|hb
   · exact⟨.inr mG,qE (Fw _ s.gens.size _ _ rfl)⟩
   · obtain⟨o,z⟩:=c_.mp hb
     exact⟨.inl hb,by show(Heap.get? _ _).isSome=true;rw[kp _ b o (Fv b o z)];rfl⟩
end
end Mine
end
section
open PySem PySem.W PyProof.Rows PySem.Challenge
open Builtin Builtin.Str
namespace Mine
theorem jZ(x:Str)(l u:Option Int):(Txt.slice x l u).length<=x.length:=by
 unfold Txt.slice
 split
 · exact aR _
 · show(List.toArray _).size<=_
   rw[List.size_toArray]
   exact aX (List.length_filterMap_le _ _) (sliceIndices_le l u x.length)
noncomputable def Yt:Option Int->D
 |none=>.none
 |some i=>.int i
structure jt where
 start:Int
 open_:Option Int
 res:List Str
noncomputable def bz(x:Str)(st:jt)(p:Int×Str):jt:=
 if p.2.cps.toList=[34] then(match st.open_ with
  |none=>⟨st.start,some p.1,st.res⟩
  |some o=>⟨p.1+1,none,if st.start=o then st.res else st.res++[Txt.slice x (some st.start) (some o)]⟩)
 else st
noncomputable def dD(x:Str)(l:List (Int×Str)):jt:=l.foldl (bz x) ⟨0,none,[]⟩
noncomputable def oB(x:Str)(st:jt):Str:=Txt.join "" (if st.start<(x.length:Int) then st.res++[Txt.slice x (some st.start) none] else st.res)
noncomputable def cZ(x:Str):Str:=if Txt.contains x "\"" then oB x (dD x (bJ x)) else x
theorem iQ: ∀(r:List Nat) (e:Bool) (i:Nat) (last:Int),(aZ e r i last).length<=r.length+1
 |[],e,i,last=>by cases e<;>simp[aZ]
 |c::r,true,i,last=>by have:=iQ r false (i+1) i;simp only[aZ,eF];exact OL this
 |c::r,false,i,last=>by
  unfold aZ
  split
  · have:=iQ r true (i+1) i;simp only[eF];exact RZ this
  · have:=iQ r false (i+1) i;simp only[eF];exact OL this
theorem uo(x:Str):(bJ x).length<=x.length+1:=by
 have:=iQ x.cps.toList false 0 0
 rwa [gV] at this
theorem mH(x:Str)(l:List (Int×Str))(p:Int×Str):dD x (l++[p])=bz x (dD x l) p:=by unfold dD;rw[eE];rfl
theorem oE(x:Str)(l:List (Int×Str)):(dD x l).res.length<=l.length/\ ∀y∈(dD x l).res,y.length<=x.length:=by
 generalize hn:l.length=n
 induction n generalizing l with
 |zero=>
  have:l=[]:=gh hn
  subst this
  exact⟨aR _,λy h=>nomatch h⟩
 |succ n ih=>
  obtain⟨l',ch,rfl⟩: ∃l' ch,l=l'++[ch]:=⟨l.dropLast,l.getLast (by intro e;rw[e] at hn;cases hn),(iV _).symm⟩
  have uc:l'.length=n:=by simpa using hn
  obtain⟨h1,h2⟩:=ih l' uc
  rw[mH]
  unfold bz
  split
  · split
    · exact⟨by show(dD x l').res.length<=_;exact Q6 h1,h2⟩
    · dsimp only
      split
      · exact⟨Q6 h1,h2⟩
      · refine⟨by simp only[cF,pI];exact Q85 h1,λy hy=>?_⟩
        rcases bB.mp hy with hy|hy
        · exact h2 y hy
        · rw[ay.mp hy];exact jZ _ _ _
  · exact⟨Q6 h1,h2⟩
section
variable{C:Cx}{k:Nat}
theorem zM{a Mm:Addr}{x:Str}(hf:bu C 3 a)(EH:bu C 2 Mm)(yt:bT C "enumerate" (.type "enumerate"))(hlen:bT C "len" (.builtin "len"))(mF:fW x=false)(hx:x.length<=1000):
 Fn C (k+4) (.ref a) [.str x] (.str (cZ x)):=by
 refine Fn.plain hf.2 ?_ rfl (by decide) ?_ ?_ ?_ ?_ rfl rfl rfl
 · intro pm cd doc vs hl
   obtain⟨v,rfl⟩:=tB hl
   rfl
 · decide
 · decide
 · decide
 · have aF:sizeLine=16777216:=rfl
   refine Ex.ite (b:=!Txt.contains x "\"") (λaq=>Txt.contains x "\"" =true/\ Le [("addr",false,.str x)] aq) (Te.cmp (Ev.iB (x:="\"") (by decide)) (Ev.o (.str x) rfl) aH.Cg) (λhb=>?_) (λhb=>Ex.done (.inl ⟨rfl,by simpa using hb,Sub.le ⟨rfl,trivial⟩⟩)) λaq ⟨hc,hle⟩=>kM.weak hle ?_
   · have:cZ x=x:=by unfold cZ;rw[aa (by simpa using hb)]
     rw[this]
     exact Ex.ret (md:=.any) (Ev.o _ rfl) (.inl rfl) (.inr ⟨Fl.noConfusion,.inl rfl⟩)
   · have hs:cZ x=oB x (dD x (bJ x)):=by unfold cZ;rw[af hc]
     rw[hs]
     refine Ex.set (aP.jg (md:=.any) Ev.aG rfl) ⟨.inl rfl,ai⟩ ?_
     refine Ex.set (aP.jg (md:=.any) Ev.zp rfl) ⟨.inl rfl,ai⟩ ?_
     refine Ex.set (aP.own (Ev.list (ds:=[]) (md:=.fresh) Ar.nil (by decide))) ⟨.inl rfl,ai⟩ ?_
     let τ:jt->Sg:=λst=>[("addr",false,.str x),("start",false,.int st.start),("open_pos",false,Yt st.open_),("result",true,.list (st.res.map D.str))]
     refine Ex.CA (items:=bJ x) (λp=>D.int p.1) (λp=>D.str p.2) (λdone=>τ (dD x done)) (Le (τ (dD x (bJ x)))) (aN.G5 (ds:=[.str x]) (aK.glob rfl EH.1) (Ar.cons (Ev.o _ rfl) Ar.nil) (aA.fn EH.2) (C_ EH yt mF)) (λ_ _=>⟨rfl,rfl⟩) ⟨.inl rfl,ai⟩ ⟨.inl rfl,ai⟩ ⟨rfl,rfl,rfl,rfl,trivial⟩ ?_ (λaq h=>h) ?_
     · rintro done ⟨p,y⟩ left hi
       have mq:done.length<=1001:=by
        have h1:=congrArg List.length hi
        have h2:=uo x
        simp at h1;exact VJ h1 h2 hx
       obtain⟨r1,r2⟩:=oE x done
       rw[mH]
       generalize dD x done=st at*
       obtain⟨start,op,res⟩:=st
       dsimp only at r1 r2
       refine Ex.one (R:=Sub (τ (bz x ⟨start,op,res⟩ (p,y)))) (cH.ite (b:=y.cps.toList==(Str.ofString "\"").cps.toList) (Te.cmp (Ev.o _ rfl) (Ev.iB (x:="\"") (by decide)) aH.eqStr) (λhb=>?_) λhb=>?_) λaq h=>Ex.done h
       · have hy:y.cps.toList=[34]:=eq_of_beq hb
         have Cj:bz x ⟨start,op,res⟩ (p,y)=(match op with
          |none=>⟨start,some p,res⟩
          |some o=>⟨p+1,none,if start=o then res else res++[Txt.slice x (some start) (some o)]⟩):=by unfold bz;rw[af hy]
         rw[Cj]
         cases op with
         |none=>
          refine Ex.one (R:=Sub (τ ⟨start,some p,res⟩)) (cH.ite (b:=true) (Te.cmp (Ev.o (.none) rfl) Ev.zp aH.yl) (λ_=>?_) λh=>nomatch h) λaq h=>Ex.done (.inl ⟨rfl,h⟩)
          exact Ex.set (aP.jg (md:=.any) (Ev.o (.int p) rfl) rfl) ⟨.inl rfl,ai⟩ (Ex.done (.inl ⟨rfl,rfl,rfl,rfl,rfl,trivial⟩))
         |some o=>
          refine Ex.one (R:=Sub (τ ⟨p+1,none,if start=o then res else res++[Txt.slice x (some start) (some o)]⟩)) (cH.ite (b:=false) (Te.cmp (Ev.o (.int o) rfl) Ev.zp aH.AR) (λh=>nomatch h) λ_=>?_) λaq h=>Ex.done (.inl ⟨rfl,h⟩)
          refine Ex.ite (b:=start !=o) (Le [("addr",false,.str x),("pos",false,.int p),("result",true,.list ((if start=o then res else res++[Txt.slice x (some start) (some o)]).map D.str))]) (Te.cmp (Ev.o (.int start) rfl) (Ev.o (.int o) rfl) aH.ne) (λiO=>?_) (λiO=>?_) λaq hle=>kM.weak hle ?_
          · have Yu:start≠o:=by simpa using iO
            rw[aa Yu,dN]
            exact Ex.push (ds:=res.map D.str) rfl (Ev.lC (Ev.o (.str x) rfl) (show cI _ _ _ _ _ (some _) (some _) from Ev.o _ rfl) (show cI _ _ _ _ _ (some _) (some _) from Ev.o (.int o) rfl)) (.inl rfl) (by rw[aM];exact UC aF mq r1) (Ex.done (.inl ⟨rfl,Sub.le ⟨rfl,rfl,rfl,trivial⟩⟩))
          · have he:start=o:=by simpa using iO
            rw[af he]
            exact Ex.done (.inl ⟨rfl,Sub.le ⟨rfl,rfl,rfl,trivial⟩⟩)
          · refine Ex.set (aP.jg (Ev.bin (Ev.o (.int p) rfl) Ev.aG ak.add) rfl) ⟨.inl rfl,ai⟩ ?_
            exact Ex.set (aP.jg (md:=.any) Ev.zp rfl) ⟨.inl rfl,ai⟩ (Ex.done (.inl ⟨rfl,rfl,rfl,rfl,rfl,trivial⟩))
       · have hy: ¬y.cps.toList=[34]:=λe=>by rw[e] at hb;exact absurd hb (by decide)
         have Cj:bz x ⟨start,op,res⟩ (p,y)=⟨start,op,res⟩:=by unfold bz;rw[aa hy]
         rw[Cj]
         exact Ex.done (.inl ⟨rfl,rfl,rfl,rfl,rfl,trivial⟩)
     · intro aq hle
       refine kM.weak hle ?_
       obtain⟨r1,r2⟩:=oE x (bJ x)
       have nR:=uo x
       unfold oB
       generalize dD x (bJ x)=st at*
       refine Ex.ite (b:=decide (st.start<(x.length:Int))) (Le [("result",true,.list ((if st.start<(x.length:Int) then st.res++[Txt.slice x (some st.start) none] else st.res).map D.str))]) (Te.cmp (Ev.o (.int st.start) rfl) (Ev.call (ds:=[.str x]) (aK.blt rfl hlen) (Ar.cons (Ev.o _ rfl) Ar.nil) aA.blt Fn.Cc|>.up (.inl rfl)) aH.lt) (λhb=>?_) (λhb=>?_) λaq hle=>kM.weak hle ?_
       · rw[af (of_decide_eq_true hb),dN]
         exact Ex.push (ds:=st.res.map D.str) rfl (Ev.lC (Ev.o (.str x) rfl) (show cI _ _ _ _ _ (some _) (some _) from Ev.o (.int st.start) rfl) (show cI _ _ _ _ _ none none from trivial)) (.inl rfl) (by rw[aM];exact VS aF nR hx r1) (Ex.done (.inl ⟨rfl,Sub.le ⟨rfl,trivial⟩⟩))
       · rw[aa (by simpa using hb)]
         exact Ex.done (.inl ⟨rfl,Sub.le ⟨rfl,trivial⟩⟩)
       · have Mn:(if st.start<(x.length:Int) then st.res++[Txt.slice x (some st.start) none] else st.res).length<=1002/\ ∀y∈(if st.start<(x.length:Int) then st.res++[Txt.slice x (some st.start) none] else st.res),y.length<=1000:=by
          split
          · refine⟨by simp only[cF,pI];exact Vk nR hx r1,λy hy=>?_⟩
            rcases bB.mp hy with hy|hy
            · exact aX (r2 y hy) hx
            · rw[ay.mp hy];exact aX (jZ _ _ _) hx
          · exact⟨UD nR hx r1,λy hy=>aX (r2 y hy) hx⟩
         generalize (if st.start<(x.length:Int) then st.res++[Txt.slice x (some st.start) none] else st.res)=xs at*
         have Ci:JoinOk "" xs=true:=by
          unfold JoinOk
          simp only[Bool.not_eq_true',StrLaws.joinFits (B:=1000) Mn.2 (by have h0:(Str.ofString "").length=0:=rfl;exact h0▸UK Mn.1)]
         exact Ex.ret (md:=.fresh) (Ev.join (Ev.iB (by decide)) (Ev.p (.list (xs.map D.str)) rfl) Ci (joinFit_length (by unfold JoinOk at Ci;simpa using Ci))) (.inl rfl) (.inl rfl)
end
section
variable{C:Cx}{sc:Scope}{ro:List Str}{k:Nat}{σ:Sg}{P:Sg->Fl->Prop}
theorem cH.Bo{α:Type}{x y:Str}{px py tp pos:Pos}{kk:Nat}{iter:Expr}{body:List Stmt}{items:List α}(fk dJ:α->D)(τ:List α->Sg)(Ip:List α->List α->Prop)(R:Sg->Prop)
 (he:aN C sc ro k σ iter (items.map λa=>.tup [fk a,dJ a])) (hd: ∀a∈items,(fk a).sc=true/\ (dJ a).sc=true) (hx:Bound sc ro x) (hy:Bound sc ro y) (h0:Sub (τ []) σ) (hi:Ip [] items)
 (turn: ∀done a left,items=done++a::left->Ip done (a::left)->Ex C sc ro k (((τ done).set x false (fk a)).set y false (dJ a)) body λaq fl=>(fl= .next/\ Ip (done++[a]) left/\ Sub (τ (done++[a])) aq) \/(fl= .brk/\ R aq) \/(∃d,fl= .ret d/\ P aq (.ret d)))
 (kB:Ip items []-> ∀aq,Le (τ items) aq->R aq) (hp: ∀aq,R aq->P aq .next)
 (hs: ∀env x,foldedSetIterable iter env x=pure x:=by intro _ _;rfl):cH C sc ro k σ (.For (.Tuple [.Name x px,.Name y py] kk tp) iter body [] pos) P:=by
 have em:(items.map λa=>D.tup [fk a,dJ a])=(items.map λa=>(fk a,dJ a)).map λp=>.tup [p.1,p.2]:=by rw[cN];rfl
 rw[em] at he
 refine cH.zx he (λd nW=>by obtain⟨a,ha,rfl⟩:=aQ.mp nW;exact hd a ha) hx hy (λr aq=>∃done left,items=done++left/\ r=left.map (λa=>(fk a,dJ a))/\ Le (τ done) aq/\ Ip done left) ⟨[],items,rfl,rfl,h0.le,hi⟩ ?_ ?_ hs
 · rintro d₁ d₂ r aq ⟨done,left,e1,e2,dP,jW⟩
   cases left with
   |nil=>cases e2
   |cons a left=>
    rw[bN] at e2
    injection e2 with e3 e4
    injection e3 with e3 e5
    subst e3;subst e4;subst e5
    refine((turn done a left e1 jW).weak ((dP.set x false (fk a)).set y false (dJ a))).mono λkO f hf=>?_
    rcases hf with⟨rfl,h1,h2⟩|⟨rfl,h⟩|⟨d,rfl,h⟩
    · exact⟨done++[a],left,by rw[e1];simp,rfl,h2.le,h1⟩
    · exact hp _ h
    · exact h
 · rintro aq ⟨done,left,e1,e2,dP,jW⟩
   cases left with
   |cons _ _=>cases e2
   |nil=>rw[ez] at e1;subst e1;exact hp _ (kB jW aq dP)
end
noncomputable def gy:Int->List (Int×Str)->Bool
 |o,[]=>o==0
 |o,p::r=>if p.2.cps.toList=[40] then gy (o+1) r else if p.2.cps.toList=[41] then(if o-1<0 then false else gy (o-1) r) else gy o r
noncomputable def checkOf(x:Str):Bool:=gy 0 (bJ (cZ x))
noncomputable def nC(o:Int)(p:Int×Str):Int:=if p.2.cps.toList=[40] then o+1 else if p.2.cps.toList=[41] then o-1 else o
noncomputable def fH(l:List (Int×Str)):Int:=l.foldl nC 0
section
variable{C:Cx}{k:Nat}
theorem vF{a aS Mm:Addr}{x:Str}(hf:bu C 4 a)(hS:bu C 3 aS)(EH:bu C 2 Mm)(yt:bT C "enumerate" (.type "enumerate"))(hlen:bT C "len" (.builtin "len"))(mF:fW x=false)(IU:fW (cZ x)=false)(hx:x.length<=1000):
 Fn C (k+5) (.ref a) [.str x] (.bool (checkOf x)):=by
 refine Fn.plain hf.2 ?_ rfl (by decide) ?_ ?_ ?_ ?_ rfl rfl rfl
 · intro pm cd doc vs hl
   obtain⟨v,rfl⟩:=tB hl
   rfl
 · decide
 · decide
 · decide
 · refine Ex.set (d:=.str (cZ x)) (aP.jg (Ev.call (ds:=[.str x]) (aK.glob rfl hS.1) (Ar.cons (Ev.o _ rfl) Ar.nil) (aA.fn hS.2) (zM hS EH yt hlen mF hx)) rfl) ⟨.inl rfl,ai⟩ ?_
   unfold checkOf
   generalize cZ x=y at*
   refine Ex.set (aP.jg (md:=.any) Ev.aG rfl) ⟨.inl rfl,ai⟩ ?_
   let τ:List (Int×Str)->Sg:=λdone=>[("opens",false,.int (fH done))]
   refine Ex.one (R:=λaq=>gy 0 (bJ y)=(fH (bJ y)==0)/\ Le (τ (bJ y)) aq) (cH.Bo (items:=bJ y) (λp=>D.int p.1) (λp=>D.str p.2) τ (λdone left=>gy 0 (bJ y)=gy (fH done) left) (λaq=>gy 0 (bJ y)=(fH (bJ y)==0)/\ Le (τ (bJ y)) aq)
    (aN.G5 (ds:=[.str y]) (aK.glob rfl EH.1) (Ar.cons (Ev.o _ rfl) Ar.nil) (aA.fn EH.2) (C_ EH yt IU)) (λ_ _=>⟨rfl,rfl⟩) ⟨.inl rfl,ai⟩ ⟨.inl rfl,ai⟩ ⟨rfl,trivial⟩ rfl ?_ (λh aq hle=>⟨h,hle⟩) λaq h=>.inl ⟨rfl,h⟩) λaq ⟨h,hle⟩=>kM.weak hle ?_
   · rintro done ⟨p,z⟩ left hi jW
     have Mp:fH (done++[(p,z)])=nC (fH done) (p,z):=by unfold fH;rw[eE];rfl
     rw[jW]
     show Ex C _ [] (k+4) (((τ done).set _ false (D.int p)).set _ false (D.str z)) _ _
     refine Ex.one (R:=λaq=>gy (fH done) ((p,z)::left)=gy (fH (done++[(p,z)])) left/\ Sub (τ (done++[(p,z)])) aq) (cH.ite (b:=z.cps.toList==(Str.ofString "(").cps.toList) (Te.cmp (Ev.o _ rfl) (Ev.iB (x:="(") (by decide)) aH.eqStr) (λhb=>?_) λhb=>?_) λaq h=>Ex.done (.inl ⟨rfl,by rw[<-h.1],h.2⟩)
     · have hz:z.cps.toList=[40]:=eq_of_beq hb
       refine Ex.aug (f:=false) (a:=.int (fH done)) rfl Ev.aG qo.add rfl ⟨.inl rfl,ai⟩ (Ex.done (.inl ⟨rfl,?_,?_,trivial⟩))
       · rw[Mp]
         conv=>lhs;unfold gy
         unfold nC
         rw[af hz,af hz]
       · rw[Mp];unfold nC;rw[af hz];rfl
     · have hz: ¬z.cps.toList=[40]:=λe=>by rw[e] at hb;exact absurd hb (by decide)
       refine Ex.one (R:=λaq=>gy (fH done) ((p,z)::left)=gy (fH (done++[(p,z)])) left/\ Sub (τ (done++[(p,z)])) aq) (cH.ite (b:=z.cps.toList==(Str.ofString ")").cps.toList) (Te.cmp (Ev.o _ rfl) (Ev.iB (x:=")") (by decide)) aH.eqStr) (λhb=>?_) λhb=>?_) λaq h=>Ex.done (.inl ⟨rfl,h⟩)
       · have qZ:z.cps.toList=[41]:=eq_of_beq hb
         refine Ex.aug (f:=false) (a:=.int (fH done)) rfl Ev.aG qo.sub rfl ⟨.inl rfl,ai⟩ ?_
         have JH:gy (fH done) ((p,z)::left)=if fH done-1<0 then false else gy (fH done-1) left:=by
          conv=>lhs;unfold gy
          rw[aa hz,af qZ]
         have hop:fH (done++[(p,z)])=fH done-1:=by rw[Mp];unfold nC;rw[aa hz,af qZ]
         refine Ex.ite (b:=decide (fH done-1<0)) (λaq=>¬fH done-1<0/\ Sub (τ (done++[(p,z)])) aq) (Te.cmp (Ev.o (.int (fH done-1)) rfl) Ev.aG aH.lt) (λpT=>?_) (λpT=>Ex.done (.inl ⟨rfl,by simpa using pT,by rw[hop];rfl,trivial⟩)) λaq ⟨h1,h2⟩=>Ex.done (.inl ⟨rfl,by rw[JH,aa h1,hop],h2⟩)
         rw[JH,af (of_decide_eq_true pT)]
         exact Ex.ret (md:=.any) Ev.gB (.inl rfl) (.inr ⟨Fl.noConfusion,.inr ⟨Fl.noConfusion,.inr ⟨Fl.noConfusion,.inr (.inr ⟨_,rfl,.inr ⟨Fl.noConfusion,.inl rfl⟩⟩)⟩⟩⟩)
       · have qZ: ¬z.cps.toList=[41]:=λe=>by rw[e] at hb;exact absurd hb (by decide)
         refine Ex.done (.inl ⟨rfl,?_,?_,trivial⟩)
         · rw[Mp]
           conv=>lhs;unfold gy
           unfold nC
           rw[aa hz,aa qZ,aa hz,aa qZ]
         · rw[Mp];unfold nC;rw[aa hz,aa qZ];rfl
   · rw[h]
     exact Ex.ret (md:=.any) (Ev.cmp (Ev.o _ rfl) Ev.aG aH.eq) (.inl rfl) (.inl rfl)
end
noncomputable def kX(w:Str)(p e:Nat):Str:=Txt.slice w (some (p:Int)) (some ((e:Int)+1))
structure yJ(w:Str)(en:Nat->Nat):Prop where
 lo: ∀p,w.cps[p]? =some 40->p+1<=en p/\ en p<w.length
 hit: ∀p,w.cps[p]? =some 40->w.cps[en p]? =some 41/\ checkOf (kX w p (en p))=true
 miss: ∀p q,w.cps[p]? =some 40->p+1<=q->q<en p->w.cps[q]? =some 41->checkOf (kX w p q)=false
noncomputable def fX(w:Str)(en:Nat->Nat)(p:Nat):Option Int:=if w.cps[p]? =some 40 then some (((en p:Int)+1-p).fdiv 2) else none
noncomputable def sizesOf(w:Str)(en:Nat->Nat):List Int:=(List.range w.length).filterMap (fX w en)
theorem aH.IV{C:Cx}{k:Nat}{c n:Nat}{y:Str}(hy:y.cps.toList=[n]):aH C k .NotEq (.str ⟨#[c]⟩) (.str y) (c !=n):=by
 have e:(c !=n)=((⟨#[c]⟩:Str).cps.toList !=y.cps.toList):=by
  rw[hy]
  show(c !=n)=([c] !=[n])
  simp[bne]
 rw[e];exact aH.Gy
theorem Fx{C:Cx}{k:Nat}{a aC aS Mm:Addr}{w:Str}{en:Nat->Nat}(hf:bu C 76 a)(hC:bu C 4 aC)(hS:bu C 3 aS)(EH:bu C 2 Mm)(yt:bT C "enumerate" (.type "enumerate"))(hlen:bT C "len" (.builtin "len"))(yz:bT C "range" (.type "range"))
 (hE:yJ w en) (hw:w.length<=1000) (hp: ∀p e:Nat,fW (kX w p e)=false/\ fW (cZ (kX w p e))=false):Fn C (k+6) (.ref a) [.str w] (DL (sizesOf w en)):=by
 refine Fn.plain hf.2 ?_ rfl (by decide) ?_ ?_ ?_ ?_ rfl rfl rfl
 · intro pm cd doc vs hl
   obtain⟨v,rfl⟩:=tB hl
   rfl
 · decide
 · decide
 · decide
 · have aF:sizeLine=16777216:=rfl
   refine Ex.set (aP.own (Ev.list (ds:=[]) (md:=.fresh) Ar.nil (by decide))) ⟨.inl rfl,ai⟩ ?_
   let τ:List Nat->Sg:=λdone=>[("word",false,.str w),("sizes",true,DL (done.filterMap (fX w en)))]
   refine Ex.loop (items:=List.range (w.length:Int).toNat) (λ(i:Nat)=>D.int i) τ (Le (τ (List.range w.length))) (aN.call (ds:=[.int w.length]) (aK.blt rfl yz) (Ar.cons (Ev.call (ds:=[.str w]) (aK.blt rfl hlen) (Ar.cons (Ev.o _ rfl) Ar.nil) aA.blt Fn.Cc|>.up (.inl rfl)) Ar.nil) aA.typ (ee.jo (Rx hw) (Z7)))
    (λ_ _=>rfl) ⟨.inl rfl,ai⟩ ⟨rfl,rfl,trivial⟩ ?_ (λaq hle=>hle) λaq hle=>kM.weak hle (Ex.mU rfl (bA _) (.inl rfl))
   intro done p left hi
   have hpm:p∈List.range (w.length:Int).toNat:=by rw[hi];simp
   rw[bS] at hpm
   have Mq:p<w.length:=Sz hpm
   have mq:done.length<=1000:=by
    have:=congrArg List.length hi
    simp at this;exact T_ this hw
   obtain⟨c,hc⟩: ∃c,w.cps[p]? =some c:=⟨_,zl Mq⟩
   have gp:aL C (k+5) (.str w) (.int p) (.str ⟨#[c]⟩):=aL.str (by simpa using hc) (Q0)
   refine Ex.one (R:=Sub (τ (done++[p]))) (cH.ite (b:=c==40) (Te.cmp (Ev.sub (md:=.any) (Ev.o (.str w) rfl) (Ev.o (.int p) rfl) gp) (Ev.iB (x:="(") (by decide)) (aH.vo rfl)) (λhb=>?_) λhb=>?_) λaq h=>Ex.done h
   · have IW:c=40:=by simpa using hb
     subst IW
     obtain⟨l1,l2⟩:=hE.lo p hc
     obtain⟨m1,m2⟩:=hE.hit p hc
     refine Ex.set (aP.jg (Ev.bin (Ev.o (.int p) rfl) Ev.aG ak.add) rfl) ⟨.inl rfl,ai⟩ ?_
     let Iw:Nat->Sg:=λq=>[("word",false,.str w),("sizes",true,DL (done.filterMap (fX w en))),("p",false,.int p),("end",false,.int q)]
     refine Ex.pY (α:=Nat) Iw (λq=>p+1<=q/\ q<=en p) (λq=>en p-q) (Le (Iw (en p))) (p+1) ⟨aR _,l1⟩ ⟨rfl,rfl,rfl,rfl,trivial⟩ ?_ ?_
     · rintro q ⟨q1,q2⟩
       have hqw:q<w.length:=QY l2 q2
       obtain⟨cq,Yv⟩: ∃cq,w.cps[q]? =some cq:=⟨_,zl hqw⟩
       have gq:aL C (k+5) (.str w) (.int q) (.str ⟨#[cq]⟩):=aL.str (by simpa using Yv) (Q0)
       obtain⟨p1,p2⟩:=hp p q
       refine⟨cq !=41|| !(checkOf (kX w p q)==true),?_,λhb=>?_,λhb aq hle=>?_⟩
       · refine Te.or (Te.cmp (Ev.sub (md:=.any) (Ev.o (.str w) rfl) (Ev.o (.int q) rfl) gq) (Ev.iB (x:=")") (by decide)) (aH.IV rfl)) λ_=>?_
         exact Te.cmp (Ev.call (ds:=[.str (kX w p q)]) (aK.glob rfl hC.1) (Ar.cons (Ev.lC (Ev.o (.str w) rfl) (show cI _ _ _ _ _ (some _) (some _) from Ev.o (.int p) rfl) (show cI _ _ _ _ _ (some _) (some _) from(Ev.bin (Ev.o (.int q) rfl) Ev.aG ak.add|>.up (.inl rfl)))|>.up (.inl rfl)) Ar.nil) (aA.fn hC.2)
          (vF hC hS EH yt hlen p1 p2 (aX (jZ _ _ _) hw))|>.up (.inl rfl)) Ev.gB aH.dc
       · have iO:q≠en p:=λe=>by
          subst e
          rw[Yv] at m1;cases m1
          rw[m2] at hb
          exact absurd hb (by decide)
         exact Ex.set (aP.jg (Ev.bin (Ev.o (.int q) rfl) Ev.aG ak.add) rfl) ⟨.inl rfl,ai⟩ (Ex.done (.inl ⟨rfl,q+1,Vn q2 iO,⟨Q95 q1,J6 q2 iO⟩,rfl,rfl,rfl,rfl,trivial⟩))
       · have heq:q=en p:=by
          apply Classical.byContradiction
          intro iO
          rw[Bool.or_eq_false_iff] at hb
          obtain⟨h1,h2⟩:=hb
          have Mr:cq=41:=by simpa using h1
          subst Mr
          have:=hE.miss p q hc q1 (Q92 q2 iO) Yv
          rw[this] at h2
          exact absurd h2 (by decide)
         rw[<-heq];exact hle
     · intro aq hle
       refine kM.weak hle ?_
       have hsz:done.filterMap (fX w en)++[((en p:Int)+1-p).fdiv 2]=(done++[p]).filterMap (fX w en):=by
        rw[pF]
        congr 1
        rw[gG,List.filterMap_nil]
        unfold fX
        rw[af hc]
       refine Ex.push (ds:=(done.filterMap (fX w en)).map D.int) rfl (Ev.bin (Ev.bin (Ev.bin (Ev.o (.int (en p)) rfl) Ev.aG ak.add|>.up (.inl rfl)) (Ev.o (.int p) rfl) ak.sub|>.up (.inl rfl)) Ev.aG (ak.fdiv (by decide) (PyProof.noPylong_small (by decide)))) (.inl rfl) ?_ (Ex.done (.inl ⟨rfl,rfl,?_,trivial⟩))
       · have:=List.length_filterMap_le (fX w en) done
         rw[aM];exact UE aF mq this
       · show some (true,D.list ((done.filterMap (fX w en)).map D.int++[D.int (((en p:Int)+1-p).fdiv 2)]))=some (true,DL ((done++[p]).filterMap (fX w en)))
         rw[<-hsz]
         show _=some (true,D.list (List.map D.int (_++_)))
         rw[dN];rfl
   · have IW: ¬c=40:=by simpa using hb
     refine Ex.done (.inl ⟨rfl,rfl,?_,trivial⟩)
     have:(done++[p]).filterMap (fX w en)=done.filterMap (fX w en):=by
      rw[pF]
      have:fX w en p=none:=by unfold fX;rw[aa (by rw[hc];simpa using IW)]
      simp only[gG,List.filterMap_nil,this,ez]
     rw[this];rfl
end Mine
end
section
open PySem PySem.W PyProof.Rows PySem.Challenge
namespace Mine
structure qQ where
 c:Addr
 P:Addr
 pos:Pos
 qual:Str
noncomputable def eH(t:qQ)(c':Option Addr)(h:Heap):Prop:=match c' with
 |none=>h.get? t.P=some (tabObj #[])
 |some c'=>h.get? t.P=some (tabObj #[rawInt t.pos.line,rawInt t.pos.col,.ref c'])/\ h.CodeRec (.ref c') t.qual
structure jL where
 t1:qQ
 t2:qQ
noncomputable def TS(T:jL)(F:Addr->Prop)(h:Heap):Prop:=∃c1 c2:Option Addr,eH T.t1 c1 h/\ eH T.t2 c2 h/\ F T.t1.P/\ F T.t2.P/\ (∀c,c1=some c->F c)/\ ∀c,c2=some c->F c
theorem eH.keep{t:qQ}{c':Option Addr}{h h':Heap}{F:Addr->Prop}(x:eH t c' h)(hP:F t.P)(hc: ∀c,c'=some c->F c)(k: ∀b o,F b->h.get? b=some o->h'.get? b=some o):eH t c' h':=by
 cases c' with
 |none=>exact k _ _ hP x
 |some c=>
  refine bk λG hG=>?_
  obtain⟨x1,c₂,o,vs,u,e,ho,r⟩:=x
  refine hG ?_;clear hG G
  injection e with e;subst e
  exact⟨k _ _ hP x1,c,o,vs,u,rfl,k _ _ (hc _ rfl) ho,r⟩
theorem eH.alive{t:qQ}{c:Addr}{h:Heap}(x:eH t (some c) h):(h.get? c).isSome=true:=by
 refine bk λG hG=>?_
 obtain⟨x1,c₂,o,vs,u,e,ho,r⟩:=x
 refine hG ?_;clear hG G
 injection e with e;subst e
 rw[ho];rfl
theorem eH.sF{t:qQ}{c':Option Addr}{h:Heap}(x:eH t c' h):(h.get? t.P).isSome=true:=by
 cases c' with
 |none=>rw[show h.get? t.P=_ from x];rfl
 |some c=>rw[x.1];rfl
theorem TS.keep{T:jL}{F F':Addr->Prop}{h h':Heap}(x:TS T F h)(k: ∀b o,F b->h.get? b=some o->h'.get? b=some o)(hF: ∀b,F b->(h.get? b).isSome=true->F' b):TS T F' h':=by
 obtain⟨c1,c2,a1,a2,f1,f2,g1,g2⟩:=x
 refine⟨c1,c2,a1.keep f1 g1 k,a2.keep f2 g2 k,hF _ f1 a1.sF,hF _ f2 a2.sF,λc e=>?_,λc e=>?_⟩
 · subst e;exact hF c (g1 c rfl) a1.alive
 · subst e;exact hF c (g2 c rfl) a2.alive
theorem TS.P1{T:jL}{F:Addr->Prop}{h:Heap}(x:TS T F h):F T.t1.P/\ F T.t2.P/\ (h.get? T.t1.P).isSome=true/\ (h.get? T.t2.P).isSome=true:=by
 refine bk λG hG=>?_
 obtain⟨c1,c2,a1,a2,f1,f2,g1,g2⟩:=x
 refine hG ?_;clear hG G
 exact⟨f1,f2,a1.sF,a2.sF⟩
noncomputable abbrev jL.Ps(T:jL):List Addr:=[T.t1.P,T.t2.P]
noncomputable def qR(C:Cx)(T:jL)(k:Nat)(f:Value)(ds:List D)(d:D):Prop:=
 ∀(A:Around) (s:Shared) (vs:List Value) (hb:Heap) (F:Addr->Prop) (Q:Value->Shared->Prop),bH A k->C.B hb->(∀b o,hb.get? b=some o->s.heap.get? b=some o)->(∀b∈T.Ps,hb.get? b=none)->TS T F s.heap->aU C.wc s.heap (λa=>a∉T.Ps) vs ds->
  (∀v s',aO T.Ps s s'->TS T (λb=>F b \/s.heap.get? b=none) s'.heap->Rep C.wc s'.heap (λa=>s.heap.get? a=none) v d->Q v s')->wpAny (model C.prog C.w) A (PySem.call f vs) Q (λ_ _=>False) s
theorem HO.next{C:Cx}{sc:Scope}{ro:List Str}{σ:Sg}{env:Env}{h₀:Heap}{own own':Ow}{s:Shared}{G:Addr->Prop}(g:HO h₀ own G)(S:St C sc ro env h₀ σ own s)(o1: ∀b∈own.av,b∉own.mu->b∈own'.av)(o2: ∀b∈own'.mu,b∈own.mu \/s.heap.get? b=none):HO h₀ own' G:=λb hb h=>by
 refine g b hb ?_
 rcases h with h|h
 · by_cases ha:b∈own.av
   · by_cases hm:b∈own.mu
     · exact .inr hm
     · exact absurd (o1 b ha hm) h
   · exact .inl ha
 · rcases o2 b h with h|h
   · exact .inr h
   · exact .inl λm=>by have:=S.alive b m;rw[h] at this;cases this
section
variable(C:Cx)(T:jL)(sc:Scope)(ro:List Str)(k:Nat)
noncomputable def lJ(σ:Sg)(e:Expr)(md:Md)(d:D):Prop:=
 ∀(A:Around) (env:Env) (h₀:Heap) (own:Ow) (s:Shared) (G:Addr->Prop) (Q:Value->Shared->Prop),bH A k->St C sc ro env h₀ σ own s->(∀b∈T.Ps,b∈own.av)->HO h₀ own G->TS T (λb=>b∉own.mu/\ G b) s.heap->
  (∀v s',aO T.Ps s s'->St C sc ro env h₀ σ own s'->TS T (λb=>b∉own.mu/\ G b) s'.heap->Rep C.wc s'.heap (md.ok own s.heap) v d->Q v s')->wpAny (model C.prog C.w) A (eval e env) Q (λ_ _=>False) s
noncomputable def bq(σ:Sg)(t:Env->Sem Flow)(P:Sg->Fl->Prop):Prop:=
 ∀(A:Around) (env:Env) (h₀:Heap) (own:Ow) (s:Shared) (G:Addr->Prop) (Q:Flow->Shared->Prop),bH A k->St C sc ro env h₀ σ own s->(∀b∈T.Ps,b∈own.av)->HO h₀ own G->TS T (λb=>b∉own.mu/\ G b) s.heap->
  (∀f fl s' aq own',aO (T.Ps++own.mu) s s'->(∀b∈own.av,b∉own.mu->b∈own'.av)->(∀b∈own'.mu,b∈own.mu \/s.heap.get? b=none)->St C sc ro env h₀ aq own' s'->TS T (λb=>b∉own'.mu/\ G b) s'.heap->ye C.wc h₀ s'.heap fl f->P aq fl->Q f s')->
  wpAny (model C.prog C.w) A (t env) Q (λ_ _=>False) s
end
section
variable{C:Cx}{T:jL}{sc:Scope}{ro:List Str}{k:Nat}{σ τ:Sg}{P:Sg->Fl->Prop}{A:Around}{env:Env}{h₀:Heap}{own:Ow}{s s':Shared}
theorem bq.weak{t:Env->Sem Flow}(h:Le τ σ)(x:bq C T sc ro k τ t P):bq C T sc ro k σ t P:=λA env h₀ own s G Q r S hP hG ht q=>x A env h₀ own s G Q r (S.weak h) hP hG ht q
theorem bq.mono{t:Env->Sem Flow}{P':Sg->Fl->Prop}(h:bq C T sc ro k σ t P)(hp: ∀aq f,P aq f->P' aq f):bq C T sc ro k σ t P':=
 λA env h₀ own s G Q r S hP hG ht q=>h A env h₀ own s G Q r S hP hG ht λf fl s' aq own' a o1 o2 S' t' fi p=>q f fl s' aq own' a o1 o2 S' t' fi (hp _ _ p)
theorem kM.toI{t:Env->Sem Flow}(x:kM C sc ro k σ t P):bq C T sc ro k σ t P:=λA env h₀ own s G Q r S hP hG ht q=>
 x A env h₀ own s Q r S λf fl s' aq own' a o1 o2 S' fi p=>by
  refine q f fl s' aq own' ⟨λb o hb e=>a.heap b o (λm=>hb (b_ _ m)) e,a.os,a.gens⟩ o1 o2 S' (ht.keep (λb o hb e=>a.heap b o hb.1 e) λb hb al=>⟨λm=>?_,hb.2⟩) fi p
  rcases o2 b m with h|h
  · exact hb.1 h
  · rw[h] at al;cases al
theorem bq.nil(h:P σ .next):bq C T sc ro k σ (execs []) P:=kM.toI (Ex.nil h)
theorem bq.one{st:Stmt}{rest:List Stmt}{R:Sg->Prop}(h:bq C T sc ro k σ (exec st) λaq fl=>(fl= .next/\ R aq) \/(fl≠.next/\ P aq fl))(hn: ∀aq,R aq->bq C T sc ro k aq (execs rest) P):bq C T sc ro k σ (execs (st::rest)) P:=by
 intro A env h₀ own s G Q r S hP hG ht q
 refine eX (h A env h₀ own s G _ r S hP hG ht λf fl s' aq own' a o1 o2 S' t' fi p=>?_)
 cases fl with
 |next=>
  subst fi
  have hR:R aq:=p.elim (·.2) λh=>absurd rfl h.1
  refine hn aq hR A env h₀ own' s' G _ r S' (λb hb=>?_) (hG.next S o1 o2) t' λf fl iJ nP nQ a' HH BR EO Gz HJ p'=>q f fl iJ nP nQ (a.trans a' λz hz=>?_) (λb hb hm=>HH b (o1 b hb hm) λq=>(o2 b q).elim hm λn=>by have:=S.alive b hb;rw[n] at this;cases this) (λb hb=>?_) EO Gz HJ p'
  · have hbm:b∉own.mu:=by
     obtain⟨f1,f2,_,_⟩:=ht.P1
     rcases aB.mp hb with rfl|hb
     · exact f1.1
     · rw[ay.mp hb];exact f2.1
    exact o1 b (hP b hb) hbm
  · rcases bB.mp hz with hz|hz
    · exact .inl (dY _ hz)
    · exact(o2 z hz).imp (λh=>b_ _ h) id
  · rcases BR b hb with h|h
    · exact o2 b h
    · by_cases hm:b∈own.mu
      · exact .inl hm
      · refine .inr ?_
        cases e:s.heap.get? b with
        |none=>rfl
        |some o=>
         by_cases hp:b∈T.Ps
         · obtain⟨f1,f2,l1,l2⟩:=t'.P1
           rcases aB.mp hp with rfl|hp
           · rw[h] at l1;cases l1
           · rw[ay.mp hp] at h;rw[h] at l2;cases l2
         · cases (a.heap b o (λq=>(bB.mp q).elim hp hm) e).symm.trans h
 |brk=>subst fi;exact q _ .brk s' aq own' a o1 o2 S' t' rfl (p.elim (λh=>nomatch h.1) (·.2))
 |cont=>subst fi;exact q _ .cont s' aq own' a o1 o2 S' t' rfl (p.elim (λh=>nomatch h.1) (·.2))
 |ret d=>
  obtain⟨v,rfl,rp⟩:=fi
  exact q _ (.ret d) s' aq own' a o1 o2 S' t' ⟨v,rfl,rp⟩ (p.elim (λh=>nomatch h.1) (·.2))
theorem bq.ex{st:Stmt}{rest:List Stmt}{R:Sg->Prop}(h:cH C sc ro k σ st λaq fl=>(fl= .next/\ R aq) \/(fl≠.next/\ P aq fl))(hn: ∀aq,R aq->bq C T sc ro k aq (execs rest) P):bq C T sc ro k σ (execs (st::rest)) P:=bq.one (kM.toI h) hn
theorem lJ.call{func:Expr}{args:List Expr}{pos:Pos}{f:Value}{ds:List D}{d:D}(hf:aK C sc ro k σ func f)(ha:Ar C sc ro k σ args .clean ds)(hk:aA C f)(hc:qR C T k f ds d)
 (he:autoParam (∀env,eval (.Call func args [] pos) env=(do callWith pos (<-eval func env) [] (backTo pos (starEach args env)) (backToKw pos (keywordEach [] env)))) au):
 lJ C T sc ro k σ (.Call func args [] pos) .fresh d:=by
 intro A env h₀ own s G Q r S hP hG ht q
 rw[he]
 refine ao (hf A env h₀ own s _ r S λah az=>?_)
 refine callWith_of (P:=C.B) (by show((backTo pos (starEach args env)).any (·.1)||_)=false;rw[ha.2];rfl) hk ?_
 have bE:=S.cX az
 refine di (ha.2 env pos) (ha.1 A env h₀ own ah pos _ r bE λvs aE a₂ gK=>⟨(bE.cX a₂).B,?_⟩)
 have bK:=bE.cX a₂
 have aY:=az.trans a₂
 have A_:TS T (λb=>b∉own.mu/\ G b) aE.heap:=ht.keep (λb o _ e=>aY.get e) λb hb _=>hb
 refine hc A aE vs h₀ (λb=>b∉own.mu/\ G b) Q r S.base bK.keep (λb hb=>S.fresh b (hP b hb)) A_ (gK.mono (λa ha hm=>ha (hP a hm)) λ_ _ _ e=>e) λv aV cL Ba rp=>?_
 obtain⟨f1,f2,l1,l2⟩:=Ba.P1
 obtain⟨g1,g2,m1,m2⟩:=A_.P1
 have dX:=bK.jO (wr:=T.Ps) (wr':=[]) cL.heap hP (λb hb=>by
  rcases aB.mp hb with rfl|hb
  · exact g1.1
  · rw[ay.mp hb];exact g2.1) (λb hb=>by
  rcases aB.mp hb with rfl|hb
  · exact l1
  · rw[ay.mp hb];exact l2) (λ_ h=>nomatch h) λ_ h=>nomatch h
 refine q v aV (aO.trans (aY.toB (own:=T.Ps)) cL λz hz=>.inl hz) dX (Ba.keep (λb o _ e=>e) λb hb _=>?_) (rp.mono (λb hb=>aY.none hb) λ_ _ _ e=>e)
 rcases hb with hb|hb
 · exact hb
 · refine⟨λm=>?_,hG b ?_ (.inl λm=>?_)⟩
   · have:=bK.alive b (S.sub b m)
     rw[hb] at this;cases this
   rotate_left
   · have:=bK.alive b m
     rw[hb] at this;cases this
   · cases z:h₀.get? b with
     |none=>rfl
     |some o=>cases (bK.keep b o z).symm.trans hb
theorem IX{T:jL}{own:Ow}{s s':Shared}(a:aO T.Ps s s'):aO (T.Ps++own.mu) s s':=⟨λb o hb e=>a.heap b o (λm=>hb (dY _ m)) e,a.os,a.gens⟩
theorem bq.ret{e:Expr}{pos:Pos}{rest:List Stmt}{d:D}(h:lJ C T sc ro k σ e .fresh d)(hp:P σ (.ret d)):bq C T sc ro k σ (execs (.Return (some e) pos::rest)) P:=by
 refine bq.one (R:=λ_=>False) (λA env h₀ own s G Q r S hP hG ht q=>wpAny_Return_some (h A env h₀ own s G _ r S hP hG ht λv ah az bE kZ rp=>?_)) λ_ h=>h.elim
 exact q _ (.ret d) ah σ own (IX az) (λb hb _=>hb) (λb hb=>.inl hb) bE kZ ⟨v,rfl,rp.mono (λb hb=>by
  cases z:h₀.get? b with
  |none=>rfl
  |some o=>have w:=S.keep b o z;cases (show s.heap.get? b=none from hb).symm.trans w) λ_ _ _ e=>e⟩ (.inr ⟨Fl.noConfusion,hp⟩)
theorem bq.set{x:Str}{px pos:Pos}{e:Expr}{rest:List Stmt}{d:D}(h:lJ C T sc ro k σ e .fresh d)(hx:Bound sc ro x)(hn:bq C T sc ro k (σ.set x false d) (execs rest) P)
 (hs: ∀env,env.scope=sc->swapsWith e (some (.Name x px)) pos.line env=pure false:=by intro env h;cases env;cases h;rfl):bq C T sc ro k σ (execs (.Assign [.Name x px] e pos::rest)) P:=by
 refine bq.one (R:=λaq=>aq=σ.set x false d) (λA env h₀ own s G Q r S hP hG ht q=>wpAny_Assign_Name (h A env h₀ own s G _ r S hP hG ht λv ah az bE kZ rp=>?_) (hs env S.scope)) λaq e=>e▸hn
 have rc:Rep C.wc ah.heap (λa=>a∉own.av) v d:=rp.mono (λb hb hm=>by
  have:=S.alive b hm
  rw[show s.heap.get? b=none from hb] at this;cases this) λ_ _ _ e=>e
 refine bE.store (f:=false) rc hx.1 hx.2 (λh=>nomatch h) λaE a₂ _ bK=>q .next .next aE _ own (aO.trans (IX az) a₂ λz hz=>.inl (b_ _ hz)) (λb hb _=>hb) (λb hb=>.inl hb) bK (kZ.keep (λb o hb e=>a₂.heap b o hb.1 e) λb hb _=>hb) rfl (.inl ⟨rfl,rfl⟩)
theorem bq.pair{x y:Str}{px py tp pos:Pos}{kk:Nat}{e:Expr}{rest:List Stmt}{d₁ d₂:D}(h:lJ C T sc ro k σ e .fresh (.tup [d₁,d₂]))(h1:d₁.sc=true)(h2:d₂.sc=true)(hx:Bound sc ro x)(hy:Bound sc ro y)(hn:bq C T sc ro k ((σ.set x false d₁).set y false d₂) (execs rest) P)
 (hs: ∀env,env.scope=sc->swapsWithSole [.Tuple [.Name x px,.Name y py] kk tp] e pos.line env=pure false:=by intro env h;cases env;cases h;rfl)
 (hw: ∀env,env.scope=sc->swappedStores [.Tuple [.Name x px,.Name y py] kk tp] e env=pure none:=by intro env h;cases env;cases h;rfl):bq C T sc ro k σ (execs (.Assign [.Tuple [.Name x px,.Name y py] kk tp] e pos::rest)) P:=by
 refine bq.one (R:=λaq=>aq=(σ.set x false d₁).set y false d₂) (λA env h₀ own s G Q r S hP hG ht q=>Assign_Tuple (h A env h₀ own s G _ r S hP hG ht λv ah az bE kZ rp=>?_) (hs env S.scope) (hw env S.scope)) λaq e=>e▸hn
 exact qU (C:=C) r bE rp.any h1 h2 hx hy λaE a₂ bK=>q .next .next aE _ own (aO.trans (IX az) a₂ λz hz=>.inl (b_ _ hz)) (λb hb _=>hb) (λb hb=>.inl hb) bK (kZ.keep (λb o hb e=>a₂.heap b o hb.1 e) λb hb _=>hb) rfl (.inl ⟨rfl,rfl⟩)
end
noncomputable def Dc(d:D):Prop:=d.sc=true \/ ∃ds,(d= .list ds \/d= .tup ds)/\ ∀e∈ds,e.sc=true
theorem eH.obj{t:qQ}{c':Option Addr}{h:Heap}(x:eH t c' h): ∃ps,h.get? t.P=some (tabObj ps):=by
 cases c' with
 |none=>exact⟨_,x⟩
 |some c=>exact⟨_,x.1⟩
theorem TS.obj{T:jL}{F:Addr->Prop}{h:Heap}(x:TS T F h): ∀b∈T.Ps,∃ps,h.get? b=some (tabObj ps):=λb hb=>by
 refine bk λG hG=>?_
 obtain⟨c1,c2,a1,a2,_⟩:=x
 refine hG ?_;clear hG G
 rcases aB.mp hb with rfl|hb
 · exact a1.obj
 · rw[ay.mp hb];exact a2.obj
theorem Rep.zN{wc:Addr}{T:jL}{F Pr:Addr->Prop}{h:Heap}{v:Value}{d:D}(x:Rep wc h Pr v d)(ht:TS T F h)(hd:Dc d):Rep wc h (λa=>Pr a/\ a∉T.Ps) v d:=by
 rcases hd with hd|⟨ds,rfl|rfl,jK⟩
 · exact x.dH hd
 · obtain⟨a,vs,rfl,pa,hl,hs,hr⟩:=x
   refine⟨a,vs,rfl,⟨pa,λm=>?_⟩,hl,hs,aU.dH hr jK⟩
   obtain⟨ps,e⟩:=ht.obj a m
   obtain⟨o',n,kh,_,_,nO⟩:=hl
   rw[e] at kh;injection kh with kh;subst kh;cases nO
 · obtain⟨a,vs,rfl,pa,hl,hs,hr⟩:=x
   refine⟨a,vs,rfl,⟨pa,λm=>?_⟩,hl,hs,aU.dH hr jK⟩
   obtain⟨ps,e⟩:=ht.obj a m
   obtain⟨o',kh,nO,n,KV⟩:=hl
   rw[e] at kh;injection kh with kh;subst kh;cases nO
theorem qR.plain{C:Cx}{T:jL}{k:Nat}{a:Addr}{name:Str}{params:Arguments}{body:List Stmt}{scope:Scope}{ds:List D}{d:D}(hf:FnAt C a name params body scope)
 (hb: ∀pm cd doc (vs:List Value),vs.length=ds.length->bindArgs (Calls.docDef name params body scope pm cd doc) ⟨vs,[]⟩=pure ((params.args.map (·.arg)).zip vs))
 (hl:(params.args.map (·.arg)).length=ds.length) (qp:(params.args.map (·.arg)).Nodup)
 (iL: ∀x∈params.args.map (·.arg),scope.names.lookup x=some .local) (hcell: ∀x∈scope.names,x.2≠.cell) (hfree: ∀x∈scope.names,x.2≠.free)
 (hd2:Dc d) (d_:bq C T scope [] k (gZ (params.args.map (·.arg)) ds) (execs body) λ_ fl=>fl= .ret d \/(fl= .next/\ d= .none))
 (hk:autoParam (scope.kind= .function) au) (rO:autoParam (scope.isCoroutine=false) au) (jN:autoParam (scope.isGenerator=false) au):qR C T (k+1) (.ref a) ds d:=by
 intro A s vs hb₀ F Q r B dP eU ht gK q
 have Bs:C.B s.heap:=C.keeps _ _ B dP
 have hg: ∀b o,(hideAll s.heap T.Ps).get? b=some o->s.heap.get? b=some o:=λb o e=>of_hideAll _ e
 have zB: ∀b o,b∉T.Ps->s.heap.get? b=some o->(hideAll s.heap T.Ps).get? b=some o:=λb o hb e=>hideAll_get _ e hb
 have Bh:C.B (hideAll s.heap T.Ps):=C.keeps _ _ B λb o e=>zB b o (λm=>by rw[eU b m] at e;cases e) (dP b o e)
 refine bk λG hG=>?_
 obtain⟨o,pm,cd,doc,ho,hd,tU⟩:=hf _ Bs
 refine hG ?_;clear hG G
 have hlen:=gK.length
 obtain⟨p1,p2,Ms,Mt⟩:=ht.P1
 have Gs: ∀b∈T.Ps,(s.heap.get? b).isSome=true:=λb hb=>by
  rcases aB.mp hb with rfl|hb
  · exact Ms
  · rw[ay.mp hb];exact Mt
 refine wpAny_call (call_plain_ret (binds:=(params.args.map (·.arg)).zip vs) r.lt ho hd (C.nolimit _ Bs) tU (hb pm cd doc vs hlen) (λx hx=>iL _ (kq hx).1) (λbX Dd=>?_) rO jN hk hcell)
 have nL:s.heap.get? s.heap.objs.size=none:=bg _
 have S:=St.init (env:=envOf name scope s.heap.objs.size a cd) (t:=s.toks+((params.args.map (·.arg)).zip vs).length) rfl hk rfl rfl rfl Bh hg (λb hb=>hideAll_none _ hb) Gs Dd.keep Dd.ns iL hcell hfree qp (λ_ h=>h) gK
 refine d_ _ (envOf name scope s.heap.objs.size a cd) _ _ _ (λb=>F b \/s.heap.get? b=none) _ (r.deeper _) S (λb hb=>.tail _ hb) (λb hb _=>?_) (ht.keep (λb o _ e=>Dd.keep b o e) λb hb al=>⟨λm=>?_,.inl hb⟩) λf fl s' aq own' av o1 o2 S' t' fi p=>?_
 · by_cases hp:b∈T.Ps
   · rcases aB.mp hp with rfl|hp
     · exact .inl p1
     · rw[ay.mp hp];exact .inl p2
   · refine .inr ?_
     cases z:s.heap.get? b with
     |none=>rfl
     |some o=>rw[zB b o hp z] at hb;cases hb
 · rw[ay.mp m,nL] at al;cases al
 · have cX:aO T.Ps s s':=⟨λb o hb e=>S'.keep b o (zB b o hb e),av.os,av.gens⟩
   have Gz:TS T (λb=>F b \/s.heap.get? b=none) s'.heap:=t'.keep (λb o _ e=>e) λb hb _=>hb.2
   have nn: ∀b,(hideAll s.heap T.Ps).get? b=none->b∉T.Ps->s.heap.get? b=none:=λb e hp=>by
    cases z:s.heap.get? b with
    |none=>rfl
    |some o=>rw[zB b o hp z] at e;cases e
   rcases p with rfl|⟨rfl,rfl⟩
   · obtain⟨v,rfl,rp⟩:=fi
     exact q v s' cX Gz ((rp.zN Gz hd2).mono (λb hb=>nn b hb.1 hb.2) λ_ _ _ e=>e)
   · subst fi
     exact q .none s' cX Gz rfl
section
variable{C:Cx}{T:jL}{sc:Scope}{ro:List Str}{k:Nat}{σ τ:Sg}{P:Sg->Fl->Prop}
theorem bq.Mu{ss:List Stmt}{R:Sg->Prop}(h:Ex C sc ro k σ [] λaq fl=>fl= .next/\ R aq)(hn: ∀aq,R aq->bq C T sc ro k aq (execs ss) P):bq C T sc ro k σ (execs ss) P:=by
 intro A env h₀ own s G Q r S hP hG ht q Γ p hΓ
 have z:=(kM.toI (T:=T) h) A env h₀ own s G (λf s'=>f= .next->wpAny (model C.prog C.w) A (execs ss env) Q (λ_ _=>False) s') r S hP hG ht (λf fl s' aq own' a o1 o2 S' t' fi pq e=>by
  obtain⟨rfl,hR⟩:=pq
  refine hn aq hR A env h₀ own' s' G Q r S' (λb hb=>?_) (hG.next S o1 o2) t' λf fl iJ nP nQ a' HH BR EO Gz HJ p'=>q f fl iJ nP nQ (a.trans a' λz hz=>?_) (λb hb hm=>HH b (o1 b hb hm) λq=>(o2 b q).elim hm λn=>by have:=S.alive b hb;rw[n] at this;cases this) (λb hb=>?_) EO Gz HJ p'
  · obtain⟨f1,f2,_,_⟩:=ht.P1
    refine o1 b (hP b hb) ?_
    rcases aB.mp hb with rfl|hb
    · exact f1.1
    · rw[ay.mp hb];exact f2.1
  · rcases bB.mp hz with hz|hz
    · exact .inl (dY _ hz)
    · exact(o2 z hz).imp (λh=>b_ _ h) id
  · rcases BR b hb with h|h
    · exact o2 b h
    · by_cases hm:b∈own.mu
      · exact .inl hm
      · refine .inr ?_
        cases e:s.heap.get? b with
        |none=>rfl
        |some o=>
         by_cases hp:b∈T.Ps
         · obtain⟨f1,f2,l1,l2⟩:=t'.P1
           rcases aB.mp hp with rfl|hp
           · rw[h] at l1;cases l1
           · rw[ay.mp hp] at h;rw[h] at l2;cases l2
         · rw[a.heap b o (λq=>(bB.mp q).elim hp hm) e] at h;cases h) Γ p hΓ
 exact z rfl Γ p hΓ
theorem bq.freeze{x:Str}{d:D}{ss:List Stmt}(hx:σ.get x=some (true,d))(h:bq C T sc ro k (σ.set x false d) (execs ss) P):bq C T sc ro k σ (execs ss) P:=
 bq.Mu (R:=λaq=>aq=σ.set x false d) (Ex.freeze hx (Ex.nil ⟨rfl,rfl⟩)) λaq e=>e▸h
theorem bq.iG{x:Str}{px pos:Pos}{e:Expr}{rest:List Stmt}{f:Bool}{d:D}(h:aP C sc ro k σ e f d)(hx:Bound sc ro x)(hn:bq C T sc ro k (σ.set x f d) (execs rest) P)
 (hs: ∀env,env.scope=sc->swapsWith e (some (.Name x px)) pos.line env=pure false:=by intro env h;cases env;cases h;rfl):bq C T sc ro k σ (execs (.Assign [.Name x px] e pos::rest)) P:=
 bq.ex (R:=λaq=>aq=σ.set x f d) (cH.assign h hx (.inl ⟨rfl,rfl⟩) hs) λaq e=>e▸hn
theorem bq.Fy{e:Expr}{pos:Pos}{rest:List Stmt}{d:D}{md:Md}(h:Ev C sc ro k σ e md d)(hd:d.sc=true \/md= .fresh)(hp:P σ (.ret d)):bq C T sc ro k σ (execs (.Return (some e) pos::rest)) P:=
 bq.ex (R:=λ_=>False) (cH.ret h hd (.inr ⟨Fl.noConfusion,hp⟩)) λ_ h=>h.elim
theorem bq.ite{t:Expr}{body orelse rest:List Stmt}{pos:Pos}{b:Bool}(R:Sg->Prop)(ht:Te C sc ro k σ t b)(h1:b=true->bq C T sc ro k σ (execs body) (After R P))(h2:b=false->bq C T sc ro k σ (execs orelse) (After R P))(hn: ∀aq,R aq->bq C T sc ro k aq (execs rest) P):bq C T sc ro k σ (execs (.If t body orelse pos::rest)) P:=by
 refine bq.one (R:=R) (λA env h₀ own s G Q r S hP hG tt q=>wpAny_If (ht A env h₀ own s _ r S λah az=>?_)) hn
 have kZ:TS T (λb=>b∉own.mu/\ G b) ah.heap:=tt.keep (λb o _ e=>az.get e) λb hb _=>hb
 have lift: ∀f fl s' aq own',aO (T.Ps++own.mu) ah s'->(∀b∈own.av,b∉own.mu->b∈own'.av)->(∀b∈own'.mu,b∈own.mu \/ah.heap.get? b=none)->St C sc ro env h₀ aq own' s'->TS T (λb=>b∉own'.mu/\ G b) s'.heap->ye C.wc h₀ s'.heap fl f->After R P aq fl->Q f s':=
  λf fl s' aq own' a o1 o2 S' t' fi p=>q f fl s' aq own' (aO.trans (az.toB (own:=T.Ps++own.mu)) a λz hz=>.inl hz) o1 (λb hb=>(o2 b hb).imp id az.none) S' t' fi p
 cases b with
 |true=>exact h1 rfl A env h₀ own ah G Q r (S.cX az) hP hG kZ lift
 |false=>exact h2 rfl A env h₀ own ah G Q r (S.cX az) hP hG kZ lift
end
theorem IY{C:Cx}{k:Nat}{f:Addr}{a b n:Int}(hf:bu C 7 f)(mq:jT C "_DIV_LIMIT" (.int 4000))(qt:bT C "divmod" (.builtin "divmod"))(hb:b≠0)(hp:Builtin.divisionGoesByPylong a b=false)(hn:(Builtin.Int.intBits a:Int)-n<=4000):
 Fn C (k+1) (.ref f) [.int a,.int b,.int n] (.tup [.int (a.fdiv b),.int (a.fmod b)]):=by
 refine Fn.plain hf.2 ?_ rfl (by decide) ?_ ?_ ?_ ?_ rfl rfl rfl
 · intro pm cd doc vs hl
   obtain⟨u,v,w,rfl⟩:=BZ hl
   rfl
 · decide
 · decide
 · decide
 · refine Ex.ite (b:=true) (λ_=>False) ?_ (λ_=>?_) (λh=>nomatch h) λ_ h=>h.elim
   · have e:decide ((Builtin.Int.intBits a:Int)-n<=4000)=true:=decide_eq_true hn
     rw[<-e]
     exact Te.cmp (Ev.bin (Ev.bits (Ev.o (.int a) rfl)|>.up (.inl rfl)) (Ev.o (.int n) rfl) ak.sub|>.up (.inl rfl)) (Ev.wQ mq) aH.le
   · exact Ex.ret (md:=.fresh) (Ev.call (ds:=[.int a,.int b]) (aK.blt rfl qt) (Ar.cons (Ev.o _ rfl) (Ar.cons (Ev.o _ rfl) Ar.nil)) aA.blt (Fn.divmod hb hp)) (.inr rfl) (.inr ⟨Fl.noConfusion,.inl rfl⟩)
noncomputable def valOf(n:Nat):List Int->Int
 |[]=>0
 |d::r=>d+2 ^n*valOf n r
noncomputable def dF(n:Nat)(a:Int):Nat->List Int
 |0=>[]
 |c+1=>a.fmod (2 ^n)::dF n (a.fdiv (2 ^n)) c
noncomputable def bU(a:Int)(n:Nat):Nat:=(Builtin.Int.intBits a+n-1)/n
structure De where
 qs:List Int
 r:Int
noncomputable def qb(b:Int)(n:Nat)(st:De)(d:Int):De:=⟨st.qs++[(st.r*2 ^n+d).fdiv b],(st.r*2 ^n+d).fmod b⟩
noncomputable def gz(b:Int)(n:Nat)(l:List Int):De:=l.foldl (qb b n) ⟨[],0⟩
noncomputable def mw(a b:Int):Int×Int:=
 (valOf (Builtin.Int.intBits b) (gz b (Builtin.Int.intBits b) (dF (Builtin.Int.intBits b) a (bU a (Builtin.Int.intBits b))).reverse).qs.reverse,(gz b (Builtin.Int.intBits b) (dF (Builtin.Int.intBits b) a (bU a (Builtin.Int.intBits b))).reverse).r)
theorem j_(n:Nat): ∀(c:Nat) (a:Int),(dF n a c).length=c:=by
 intro l0
 induction l0 with
 |zero=>
  intro _
  exact rfl
 |succ c ih=>
  intro a
  show(dF n _ c).length+1=_;rw[ih]
theorem xe(n:Nat):(0:Int)<2 ^n:=by exact_mod_cast Nat.pow_pos (by decide:0<2)
theorem Bp(n:Nat): ∀(c:Nat) (a:Int),∀d∈dF n a c,0<=d/\ d<2 ^n:=by
 intro l0
 induction l0 with
 |zero=>
  intro _ d h
  exact nomatch h
 |succ c ih=>
  intro a d h
  have hp:=xe n
  rcases aB.mp h with rfl|h
  · exact⟨iw _ hp,jx _ hp⟩
  · exact ih _ d h
theorem sG(b:Int)(n:Nat)(l:List Int)(d:Int):gz b n (l++[d])=qb b n (gz b n l) d:=by unfold gz;rw[eE];rfl
theorem uq(b:Int)(n:Nat)(l:List Int):(gz b n l).qs.length=l.length:=by
 generalize hn:l.length=m
 induction m generalizing l with
 |zero=>
  have:l=[]:=gh hn
  subst this;rfl
 |succ m ih=>
  obtain⟨l',ch,rfl⟩: ∃l' ch,l=l'++[ch]:=⟨l.dropLast,l.getLast (by intro e;rw[e] at hn;cases hn),(iV _).symm⟩
  have uc:l'.length=m:=by simpa using hn
  rw[sG]
  show((gz b n l').qs++[_]).length=_
  simp only[cF,ih l' uc];rfl
structure sH(C:Cx)(T:jL)(k:Nat)(fD fI fV:Addr):Prop where
 at2:bu C 7 fD
 Mv:bu C 9 fI
 Mw:bu C 10 fV
 lim:jT C "_DIV_LIMIT" (.int 4000)
 dm:bT C "divmod" (.builtin "divmod")
 rv:bT C "reversed" (.type "reversed")
 Bq: ∀(a:Int) (n:Nat),0<=a->1<=n->n<=4000->Bt 100000 a->qR C T k (.ref fI) [.int a,.int n] (DL (dF n a (bU a n)))
 Br: ∀(ds:List Int) (n:Nat),1<=n->n<=4000->n*ds.length<=200000->(∀d∈ds,Bt 10000 d)->qR C T k (.ref fV) [DL ds,.int n] (.int (valOf n ds))
noncomputable def IZ(b:Int)(n:Nat)(st:De):Sg:=[("b",false,.int b),("n",false,.int n),("r",false,.int st.r),("q_digits",true,DL st.qs)]
theorem Fz{C:Cx}{T:jL}{k:Nat}{f fD fI fV:Addr}{a b:Int}(hf:bu C 11 f)(X:sH C T (k+1) fD fI fV)(ha:0<=a)(vG:Bt 100000 a)(hb:0<b)(xg:Bt 4000 b):
 qR C T (k+2) (.ref f) [.int a,.int b] (.tup [.int (mw a b).1,.int (mw a b).2]):=by
 refine qR.plain hf.2 ?_ rfl (by decide) ?_ ?_ ?_ (.inr ⟨_,.inr rfl,λe he=>by simp at he;rcases he with rfl|rfl<;>rfl⟩) ?_ rfl rfl rfl
 · intro pm cd doc vs hl
   obtain⟨v,w,rfl⟩:=mS hl
   rfl
 · decide
 · decide
 · decide
 · have aF:sizeLine=16777216:=rfl
   have xh:b.natAbs<2 ^Builtin.Int.intBits b:=intBits_le_iff.mp (aR _)
   unfold mw
   generalize iO:Builtin.Int.intBits b=n at*
   have BV:1<=n:=by
    rcases Nat.eq_zero_or_pos n with h|h
    · rw[h] at xh;omega
    · exact h
   have zO:n<=4000:=by rw[<-iO];exact xg
   have hp:=xe n
   have hbn:b<2 ^n:=by
    have:(b.natAbs:Int)<((2 ^n:Nat):Int):=by exact_mod_cast xh
    rw[Int.natCast_pow] at this
    have h2:((2:Nat):Int)=2:=rfl
    rw[h2] at this
    exact SK this
   have mq:(dF n a (bU a n)).length<=100000:=by
    rw[j_]
    unfold bU
    have h1:(Builtin.Int.intBits a+n-1)/n<=Builtin.Int.intBits a+n-1:=Nat.div_le_self _ _
    have h2:Builtin.Int.intBits a<=100000:=vG
    have h3:(Builtin.Int.intBits a+n-1)/n<=Builtin.Int.intBits a:=by
     rcases Nat.eq_zero_or_pos (Builtin.Int.intBits a) with h|h
     · rw[h,Nat.div_eq_of_lt (Z8 BV)];exact aR _
     · apply Nat.div_le_of_le_mul
       have:=Nat.mul_le_mul BV h
       have:n+Builtin.Int.intBits a<=n*Builtin.Int.intBits a+1:=by
        obtain⟨x,hx⟩:=Nat.exists_eq_add_of_le BV
        obtain⟨y,hy⟩:=Nat.exists_eq_add_of_le h
        have e1:n=x+1:=QZ hx
        have e2:Builtin.Int.intBits a=y+1:=by lia
        rw[e1,e2,Nat.add_mul,Nat.mul_add]
        exact VW
       exact VK (by assumption) this
    exact SA vG h3
   have Yw:n*(dF n a (bU a n)).length<=200000:=by
    rw[j_]
    unfold bU
    have h1:=Nat.mul_div_le (Builtin.Int.intBits a+n-1) n
    have h2:Builtin.Int.intBits a<=100000:=vG
    exact Wq iO h1 vG xg
   have qt:=Bp n (bU a n) a
   generalize Yx:dF n a (bU a n)=dg at*
   refine bq.iG (d:=.int n) (aP.jg (by rw[<-iO];exact Ev.bits (Ev.o (.int b) rfl)) rfl) ⟨.inl rfl,ai⟩ ?_
   have hi:=X.Bq a n ha BV zO vG
   rw[Yx] at hi
   refine bq.set (lJ.call (ds:=[.int a,.int n]) (aK.glob rfl X.Mv.1) (Ar.cons (Ev.name rfl) (Ar.cons (Ev.name rfl) Ar.nil)) (aA.fn X.Mv.2) hi) ⟨.inl rfl,ai⟩ ?_
   refine bq.iG (aP.jg (md:=.any) Ev.aG rfl) ⟨.inl rfl,ai⟩ ?_
   refine bq.iG (aP.own (Ev.list (ds:=[]) (md:=.fresh) Ar.nil (by decide))) ⟨.inl rfl,ai⟩ ?_
   refine bq.ex (R:=λaq=>Le (IZ b n (gz b n dg.reverse)) aq/\ ∀q∈(gz b n dg.reverse).qs,Bt 10000 q) (cH.jV (items:=dg.reverse) D.int (λdone=>IZ b n (gz b n done)) (λdone=>0<=(gz b n done).r/\ (gz b n done).r<b/\ ∀q∈(gz b n done).qs,Bt 10000 q) (λaq=>Le (IZ b n (gz b n dg.reverse)) aq/\ ∀q∈(gz b n dg.reverse).qs,Bt 10000 q) (by
    rw[List.map_reverse]
    exact aN.call (ds:=[DL dg]) (aK.blt rfl X.rv) (Ar.cons (Ev.name rfl) Ar.nil) aA.typ (ee.reversed (bA _))) (λ_ _=>rfl) ⟨.inl rfl,ai⟩ ⟨rfl,rfl,rfl,rfl,trivial⟩ ⟨cO _,hb,λq h=>nomatch h⟩ ?_ (λjW aq h=>⟨h,jW.2.2⟩) λaq h=>.inl ⟨rfl,h⟩) λaq ⟨hle,Yy⟩=>bq.weak hle ?_
   · rintro done d left hi ⟨r0,r1,q1⟩
     have My:d∈dg:=List.mem_reverse.mp (by rw[hi];simp)
     obtain⟨d0,d1⟩:=qt d My
     have qx:done.length<=100001:=by
      have:=congrArg List.length hi
      simp at this;exact U4 this mq
     have G2:=uq b n done
     rw[sG]
     generalize gz b n done=st at*
     obtain⟨qs,r⟩:=st
     dsimp only at r0 r1 q1 G2
     have Mz:0<=r*2 ^n+d:=by
      have:=Int.mul_nonneg r0 (Int.le_of_lt hp);exact Q3 this d0
     have ht1:r*2 ^n+d<2 ^(n+n):=by
      rw[Int.pow_add]
      have h1:(r+1)*2 ^n<=2 ^n*2 ^n:=uG (R0 r1 hbn) (Int.le_of_lt hp)
      rw[Int.add_mul] at h1
      exact U5 h1 d1
     have HN:Builtin.Int.intBits (r*2 ^n+d)<=n+n:=by
      rw[intBits_le_iff]
      have e:((r*2 ^n+d).natAbs:Int)<((2 ^(n+n):Nat):Int):=by
       simp only[Int.natAbs_of_nonneg Mz,Int.natCast_pow];exact ht1
      exact_mod_cast e
     have Yz:Builtin.Int.intBits r<=n:=by
      rw[intBits_le_iff]
      have e:(r.natAbs:Int)<((2 ^n:Nat):Int):=by
       simp only[Int.natAbs_of_nonneg r0,Int.natCast_pow];show r<2 ^n;exact J1 r1 hbn
      exact_mod_cast e
     have YA:Builtin.divisionGoesByPylong (r*2 ^n+d) b=false:=iX (by
      have h1:b.natAbs<2 ^4000:=Nat.lt_of_lt_of_le xh (Nat.pow_le_pow_right (by decide) zO)
      rcases Nat.eq_zero_or_pos b.natAbs with h|h
      · rw[h];decide
      · have:b.natAbs.log2<4000:=(Nat.log2_lt (SD h)).mpr h1
        exact Z0 this)
     refine Ex.pair (d₁:=.int ((r*2 ^n+d).fdiv b)) (d₂:=.int ((r*2 ^n+d).fmod b)) (dj.clean (Ev.call (ds:=[.int (r*2 ^n+d),.int b,.int n]) (aK.glob rfl X.at2.1) (Ar.cons (Ev.bin (Ev.bin (Ev.o (.int r) rfl) (Ev.o (.int n) rfl) (ak.shl (b:=(n:Int)) (Q0) (Wb iO xg Yz))|>.up (.inl rfl)) (Ev.o (.int d) rfl) ak.add|>.up (.inl rfl))
      (Ar.cons (Ev.o _ rfl) (Ar.cons (Ev.o _ rfl) Ar.nil))) (aA.fn X.at2.2) (IY X.at2 X.lim X.dm (ZH hb) YA (Wy iO HN xg))|>.rL)) ⟨.inl rfl,ai⟩ ⟨.inl rfl,ai⟩ ?_
     refine Ex.push (ds:=qs.map D.int) rfl (Ev.o (.int ((r*2 ^n+d).fdiv b)) rfl) (.inl rfl) (by rw[aM];exact U6 aF G2 qx) (Ex.done (.inl ⟨rfl,?_,rfl,rfl,rfl,?_,trivial⟩))
     · refine⟨iw _ hb,jx _ hb,λq hq=>?_⟩
       rcases bB.mp hq with hq|hq
       · exact q1 q hq
       · rw[ay.mp hq]
         exact aX (intBits_fdiv_le (y:=b) HN) (Td iO xg)
     · show some (true,D.list (qs.map D.int++[D.int ((r*2 ^n+d).fdiv b)]))=some (true,DL (qs++[(r*2 ^n+d).fdiv b]))
       show _=some (true,D.list ((qs++[(r*2 ^n+d).fdiv b]).map D.int))
       rw[dN];rfl
   ·
    have hqb: ∀d∈(gz b n dg.reverse).qs.reverse,Bt 10000 d:=λd h=>Yy d (List.mem_reverse.mp h)
    have G2:=uq b n dg.reverse
    generalize gz b n dg.reverse=st at*
    rw[List.length_reverse] at G2
    refine bq.ex (R:=Le [("n",false,.int n),("r",false,.int st.r),("q_digits",true,.list ((st.qs.map D.int).reverse))]) (cH.reverse rfl (.inl ⟨rfl,Sub.le ⟨rfl,rfl,rfl,trivial⟩⟩)) λaq hle=>bq.weak hle ?_
    rw[<-List.map_reverse]
    refine bq.freeze (x:="q_digits") (d:=DL st.qs.reverse) rfl ?_
    refine bq.set (lJ.call (ds:=[DL st.qs.reverse,.int n]) (aK.glob rfl X.Mw.1) (Ar.cons (Ev.name rfl) (Ar.cons (Ev.name rfl) Ar.nil)) (aA.fn X.Mw.2) (X.Br _ n BV zO (by simp only[List.length_reverse,G2];exact Yw) hqb)) ⟨.inl rfl,ai⟩ ?_
    exact bq.Fy (md:=.fresh) (Ev.tuple (Ar.cons (Ev.name (d:=.int (valOf n st.qs.reverse)) rfl|>.up (.inl rfl)) (Ar.cons (Ev.name (d:=.int st.r) rfl|>.up (.inl rfl)) Ar.nil)) (cB rfl)) (.inr rfl) (.inl rfl)
theorem bitNot_eq(a:Int):Builtin.bitNot a= -a-1:=by
 unfold Builtin.bitNot
 first|rfl|omega|(simp;omega)
theorem qR.le{C:Cx}{T:jL}{k k':Nat}{f:Value}{ds:List D}{d:D}(h:qR C T k f ds d)(hk:k<=k'):qR C T k' f ds d:=
 λA s vs hb F Q r=>h A s vs hb F Q (r.le hk)
noncomputable def jl(a b:Int):Int×Int:=if a<0 then(Builtin.bitNot (mw (Builtin.bitNot a) b).1,b+Builtin.bitNot (mw (Builtin.bitNot a) b).2) else mw a b
noncomputable def k_(a b:Int):Int×Int:=if b<0 then((jl (-a) (-b)).1,-(jl (-a) (-b)).2) else jl a b
section
variable{C:Cx}{T:jL}{k:Nat}{f fP fD fI fV:Addr}{a b:Int}
theorem yK(x y:Int):Dc (.tup [.int x,.int y]):=.inr ⟨_,.inr rfl,λe he=>by simp at he;rcases he with rfl|rfl<;>rfl⟩
theorem Df(hf:bu C 12 f)(hP:bu C 11 fP)(X:sH C T (k+1) fD fI fV)(ha:0<=a)(vG:Bt 100000 a)(hb:0<b)(xg:Bt 4000 b):qR C T (k+3) (.ref f) [.int a,.int b] (.tup [.int (mw a b).1,.int (mw a b).2]):=by
 refine qR.plain hf.2 ?_ rfl (by decide) ?_ ?_ ?_ (yK _ _) ?_ rfl rfl rfl
 · intro pm cd doc vs hl
   obtain⟨v,w,rfl⟩:=mS hl
   rfl
 · decide
 · decide
 · decide
 · have e1:(b==0)=false:=by simp;exact NH hb
   have e2:decide (b<0)=false:=by simp;exact NG hb
   have e3:decide (a<0)=false:=by simp;exact ZI ha
   refine bq.ite (b:=false) (λ_=>False) (by rw[<-e1];exact Te.cmp (Ev.o (.int b) rfl) Ev.aG aH.eq) (λh=>nomatch h) (λ_=>?_) λ_ h=>h.elim
   refine bq.ite (b:=false) (λ_=>False) (by rw[<-e2];exact Te.cmp (Ev.o (.int b) rfl) Ev.aG aH.lt) (λh=>nomatch h) (λ_=>?_) λ_ h=>h.elim
   refine bq.ite (b:=false) (λ_=>False) (by rw[<-e3];exact Te.cmp (Ev.o (.int a) rfl) Ev.aG aH.lt) (λh=>nomatch h) (λ_=>?_) λ_ h=>h.elim
   exact bq.ret (lJ.call (ds:=[.int a,.int b]) (aK.glob rfl hP.1) (Ar.cons (Ev.name rfl) (Ar.cons (Ev.name rfl) Ar.nil)) (aA.fn hP.2) (Fz hP X ha vG hb xg)) (.inr ⟨Fl.noConfusion,.inr ⟨Fl.noConfusion,.inr ⟨Fl.noConfusion,.inl rfl⟩⟩⟩)
theorem I0(hf:bu C 12 f)(hP:bu C 11 fP)(X:sH C T (k+1) fD fI fV)(ha:a<0)(vG:Bt 100000 a)(hb:0<b)(xg:Bt 4000 b):qR C T (k+4) (.ref f) [.int a,.int b] (.tup [.int (jl a b).1,.int (jl a b).2]):=by
 refine qR.plain hf.2 ?_ rfl (by decide) ?_ ?_ ?_ (yK _ _) ?_ rfl rfl rfl
 · intro pm cd doc vs hl
   obtain⟨v,w,rfl⟩:=mS hl
   rfl
 · decide
 · decide
 · decide
 · have e1:(b==0)=false:=by simp;exact NH hb
   have e2:decide (b<0)=false:=by simp;exact NG hb
   have e3:decide (a<0)=true:=by simp;exact ZJ ha
   have hn:=bitNot_eq a
   have hi:jl a b=(Builtin.bitNot (mw (Builtin.bitNot a) b).1,b+Builtin.bitNot (mw (Builtin.bitNot a) b).2):=by unfold jl;rw[af ha]
   rw[hi]
   refine bq.ite (b:=false) (λ_=>False) (by rw[<-e1];exact Te.cmp (Ev.o (.int b) rfl) Ev.aG aH.eq) (λh=>nomatch h) (λ_=>?_) λ_ h=>h.elim
   refine bq.ite (b:=false) (λ_=>False) (by rw[<-e2];exact Te.cmp (Ev.o (.int b) rfl) Ev.aG aH.lt) (λh=>nomatch h) (λ_=>?_) λ_ h=>h.elim
   refine bq.ite (b:=true) (λ_=>False) (by rw[<-e3];exact Te.cmp (Ev.o (.int a) rfl) Ev.aG aH.lt) (λ_=>?_) (λh=>nomatch h) λ_ h=>h.elim
   have c0:=Df (a:=Builtin.bitNot a) hf hP X (by rw[hn];exact Z1 ha) (intBits_le_of_natAbs (y:=a) (by rw[hn];exact UL ha) vG) hb xg
   generalize mw (Builtin.bitNot a) b=qr at*
   refine bq.pair (lJ.call (ds:=[.int (Builtin.bitNot a),.int b]) (aK.glob rfl hf.1) (Ar.cons (Ev.un (Ev.o (.int a) rfl) iE.inv|>.up (.inl rfl)) (Ar.cons (Ev.name rfl) Ar.nil)) (aA.fn hf.2) c0) rfl rfl ⟨.inl rfl,ai⟩ ⟨.inl rfl,ai⟩ ?_
   exact bq.Fy (md:=.fresh) (Ev.tuple (Ar.cons (Ev.un (Ev.o (.int qr.1) rfl) iE.inv) (Ar.cons (Ev.bin (Ev.o (.int b) rfl) (Ev.un (Ev.o (.int qr.2) rfl) iE.inv|>.up (.inl rfl)) ak.add) Ar.nil)) (cB rfl)) (.inr rfl) (.inr ⟨Fl.noConfusion,.inr ⟨Fl.noConfusion,.inr ⟨Fl.noConfusion,.inl rfl⟩⟩⟩)
theorem Dg(hf:bu C 12 f)(hP:bu C 11 fP)(X:sH C T (k+1) fD fI fV)(vG:Bt 100000 a)(hb:0<b)(xg:Bt 4000 b):qR C T (k+4) (.ref f) [.int a,.int b] (.tup [.int (jl a b).1,.int (jl a b).2]):=by
 by_cases ha:a<0
 · exact I0 hf hP X ha vG hb xg
 · have hi:jl a b=mw a b:=by unfold jl;rw[aa ha]
   rw[hi]
   exact(Df hf hP X (ZQ ha) vG hb xg).le (PI)
theorem I3(hf:bu C 12 f)(hP:bu C 11 fP)(X:sH C T (k+1) fD fI fV)(vG:Bt 100000 a)(hb:b<0)(xg:Bt 4000 b):qR C T (k+5) (.ref f) [.int a,.int b] (.tup [.int (k_ a b).1,.int (k_ a b).2]):=by
 refine qR.plain hf.2 ?_ rfl (by decide) ?_ ?_ ?_ (yK _ _) ?_ rfl rfl rfl
 · intro pm cd doc vs hl
   obtain⟨v,w,rfl⟩:=mS hl
   rfl
 · decide
 · decide
 · decide
 · have e1:(b==0)=false:=by simp;exact O_ hb
   have e2:decide (b<0)=true:=by simp;exact ZJ hb
   have hi:k_ a b=((jl (-a) (-b)).1,-(jl (-a) (-b)).2):=by unfold k_;rw[af hb]
   rw[hi]
   refine bq.ite (b:=false) (λ_=>False) (by rw[<-e1];exact Te.cmp (Ev.o (.int b) rfl) Ev.aG aH.eq) (λh=>nomatch h) (λ_=>?_) λ_ h=>h.elim
   refine bq.ite (b:=true) (λ_=>False) (by rw[<-e2];exact Te.cmp (Ev.o (.int b) rfl) Ev.aG aH.lt) (λ_=>?_) (λh=>nomatch h) λ_ h=>h.elim
   have c0:=Dg (a:= -a) (b:= -b) hf hP X (intBits_neg_le vG) (Pa hb) (intBits_neg_le xg)
   generalize jl (-a) (-b)=qr at*
   refine bq.pair (lJ.call (ds:=[.int (-a),.int (-b)]) (aK.glob rfl hf.1) (Ar.cons (Ev.un (Ev.o (.int a) rfl) iE.neg|>.up (.inl rfl)) (Ar.cons (Ev.un (Ev.o (.int b) rfl) iE.neg|>.up (.inl rfl)) Ar.nil)) (aA.fn hf.2) c0) rfl rfl ⟨.inl rfl,ai⟩ ⟨.inl rfl,ai⟩ ?_
   exact bq.Fy (md:=.fresh) (Ev.tuple (Ar.cons (Ev.o (.int qr.1) rfl|>.up (.inl rfl)) (Ar.cons (Ev.un (Ev.o (.int qr.2) rfl) iE.neg) Ar.nil)) (cB rfl)) (.inr rfl) (.inr ⟨Fl.noConfusion,.inr ⟨Fl.noConfusion,.inl rfl⟩⟩)
theorem MA(hf:bu C 12 f)(hP:bu C 11 fP)(X:sH C T (k+1) fD fI fV)(vG:Bt 100000 a)(hb:b≠0)(xg:Bt 4000 b):qR C T (k+5) (.ref f) [.int a,.int b] (.tup [.int (k_ a b).1,.int (k_ a b).2]):=by
 by_cases h:b<0
 · exact I3 hf hP X vG h xg
 · have hi:k_ a b=jl a b:=by unfold k_;rw[aa h]
   rw[hi]
   exact(Dg hf hP X vG (Q_ h hb) xg).le (PJ)
end
noncomputable def xj(C:Cx)(t:qQ):Prop:=∀h,C.B h->CodeHd h t.c t.P/\ mainGlobals≠t.P/\ ∃mg,h.Ns mainGlobals mg/\ h.BuiltinsAt mg t.P
section
variable{C:Cx}{T:jL}{sc:Scope}{ro:List Str}{k:Nat}{σ:Sg}{P:Sg->Fl->Prop}{A:Around}{env:Env}{h₀:Heap}{own:Ow}{s s':Shared}
theorem I4{t:qQ}{c1:Option Addr}{name:Str}{params:Arguments}{body:List Stmt}{scope:Scope}{oF:List (Str×Addr)}{pos:Pos}{Q:Flow->Shared->Prop}(X:xj C t)(B:C.B s.heap)(oG:env.code= .ref t.c)(Hg:env.globals=mainGlobals)(jJ:closureFor scope env=pure oF)
 (hq:qualnameIn env name name=t.qual) (oq:pos=t.pos) (tab:eH t c1 s.heap) (EF:params.defaults=[]) (Fv:params.kw_defaults=[]) (ha:annTrees params none env=[])
 (h: ∀f c' ah,(∀b o,b≠t.P->s.heap.get? b=some o->ah.heap.get? b=some o)->ah.os=s.os->ah.gens=s.gens->s.heap.get? f=none->(c1=some c' \/(c1=none/\ s.heap.get? c'=none))->eH t (some c') ah.heap->
   (∃doc pm nE,ah.heap.get? f=some (fnMade name t.qual params body scope oF doc pm c' nE))->wpAny (model C.prog C.w) A (storeName env name (.ref f)) (λ_=>Q .next) (λ_ _=>False) ah):
 wpAny (model C.prog C.w) A (exec (.FunctionDef name params body [] none [] scope none name pos) env) Q (λ_ _=>False) s:=by
 obtain⟨hC,iO,mg,hg,hb⟩:=X _ B
 refine nestDef_K EF Fv ha ?_
 rw[hq]
 cases c1 with
 |none=>
  refine makeFunction_K (ps:=#[]) jJ Hg hg oG hC tab trivial rfl iO hb λc' nE doc h' tk hx hge jP I5 htb=>?_
  refine h _ c' {s with heap:=h'.push _,toks:=tk} (λb o hb e=>dh _ (hx b o hb e)) rfl rfl ?_ (.inr ⟨rfl,?_⟩) ⟨?_,?_⟩ ⟨doc,_,nE,cV _ rfl⟩
  · exact Heap.get?_none_of_le (aX hge (Nat.le_of_lt jP))
  · exact Heap.get?_none_of_le hge
  · rw[<-oq]
    have:=dh (fnMade name t.qual params body scope oF doc ((mg "__name__").getD .none) c' nE) htb
    simpa using this
  · exact I5.push _
 |some c'=>
  have hf:codeAmong pos (#[rawInt t.pos.line,rawInt t.pos.col,.ref c']:Array Value).toList=some (.ref c'):=by
   rw[oq]
   exact codeAmong_snoc (pos:=t.pos) (c:=.ref c') [] trivial rfl
  refine makeFunction_hit (ps:=#[rawInt t.pos.line,rawInt t.pos.col,.ref c']) jJ Hg hg oG hC tab.1 trivial hf hb λnE doc h' tk hk hsz=>?_
  exact h _ c' {s with heap:=h'.push _,toks:=tk} (λb o _ e=>dh _ (hk b o e)) rfl rfl (Heap.get?_none_of_le hsz) (.inl rfl) ⟨dh _ (hk _ _ tab.1),(tab.2.keeps hk).push _⟩ ⟨doc,_,nE,cV _ rfl⟩
end
theorem Sg.get_append: ∀(a b:Sg) (x:Str),Sg.get (a++b) x=(Sg.get a x).or (Sg.get b x):=by
 intro l0
 induction l0 with
 |nil=>
  intro b x
  exact rfl
 |cons c0 r ih=>
  intro b x
  obtain⟨n,g,d⟩:=c0
  show(if x=n then some (g,d) else Sg.get (r++b) x)=(if x=n then some (g,d) else Sg.get r x).or (Sg.get b x)
  by_cases h:x=n
  · rw[af h,af h];rfl
  · rw[aa h,aa h];exact ih b x
noncomputable def oH(C:Cx)(a:Addr)(name:Str)(params:Arguments)(body:List Stmt)(scope:Scope)(c:Addr):Prop:=
 ∀h,C.B h-> ∃o pm doc,h.get? a=some o/\ o.data= .func (Calls.docDef name params body scope pm (.ref c) doc)/\ h.CodeRec (.ref c) name
theorem oH.fn{C:Cx}{a:Addr}{name:Str}{params:Arguments}{body:List Stmt}{scope:Scope}{c:Addr}(h:oH C a name params body scope c):FnAt C a name params body scope:=λhp B=>
 by obtain⟨o,pm,doc,r⟩:=h hp B;exact⟨o,pm,.ref c,doc,r⟩
theorem yL{C:Cx}{T:jL}{k:Nat}{a c:Addr}{name:Str}{params:Arguments}{body:List Stmt}{scope:Scope}{ds:List D}{A:Around}{s:Shared}{vs:List Value}{hb₀:Heap}{F:Addr->Prop}{Q:Value->Shared->Prop}(hf:oH C a name params body scope c)
 (r:bH A (k+1)) (B:C.B hb₀) (dP: ∀b o,hb₀.get? b=some o->s.heap.get? b=some o) (eU: ∀b∈T.Ps,hb₀.get? b=none) (ht:TS T F s.heap) (gK:aU C.wc s.heap (λa=>a∉T.Ps) vs ds)
 (hb: ∀pm cd doc (vs:List Value),vs.length=ds.length->bindArgs (Calls.docDef name params body scope pm cd doc) ⟨vs,[]⟩=pure ((params.args.map (·.arg)).zip vs))
 (hl:(params.args.map (·.arg)).length=ds.length) (qp:(params.args.map (·.arg)).Nodup)
 (iL: ∀x∈params.args.map (·.arg),scope.names.lookup x=some .local \/scope.names.lookup x=some .cell) (hfree: ∀x∈scope.names,x.2≠.free)
 (d_: ∀A' env al ah,bH A' k->env.code= .ref c->env.qual=name++ ".<locals>." ->St C scope [] env (hideAll s.heap T.Ps) (gZ (params.args.map (·.arg)) ds) ⟨al++T.Ps,al⟩ ah->cG s ah->(∀b∈al,s.heap.get? b=none)->
   wpAny (model C.prog C.w) A' (execs body env) (λf s'=>Q (match f with| .ret v=>v|_=>.none) s') (λ_ _=>False) ah)
 (hk:autoParam (scope.kind= .function) au) (rO:autoParam (scope.isCoroutine=false) au) (jN:autoParam (scope.isGenerator=false) au):wpAny (model C.prog C.w) A (PySem.call (.ref a) vs) Q (λ_ _=>False) s:=by
 have Bs:C.B s.heap:=C.keeps _ _ B dP
 have hg: ∀b o,(hideAll s.heap T.Ps).get? b=some o->s.heap.get? b=some o:=λb o e=>of_hideAll _ e
 have zB: ∀b o,b∉T.Ps->s.heap.get? b=some o->(hideAll s.heap T.Ps).get? b=some o:=λb o hb e=>hideAll_get _ e hb
 have Bh:C.B (hideAll s.heap T.Ps):=C.keeps _ _ B λb o e=>zB b o (λm=>by rw[eU b m] at e;cases e) (dP b o e)
 refine bk λG hG=>?_
 obtain⟨o,pm,doc,ho,hd,tU⟩:=hf _ Bs
 refine hG ?_;clear hG G
 obtain⟨p1,p2,Ms,Mt⟩:=ht.P1
 have Gs: ∀b∈T.Ps,(s.heap.get? b).isSome=true:=λb hb=>by
  rcases aB.mp hb with rfl|hb
  · exact Ms
  · rw[ay.mp hb];exact Mt
 exact Co ho hd tU r Bh hg (λb hb=>hideAll_none _ hb) Gs (λ_ h=>h) gK (hb pm (.ref c) doc vs gK.length) hl qp iL hfree d_ hk rO jN
theorem ur{C:Cx}{k:Nat}{f:Addr}{name qual:Str}{params:Arguments}{body:List Stmt}{scope:Scope}{oF:List (Str×Addr)}{doc pm nE:Value}{c':Addr}{ds:List D}{A:Around}{s:Shared}{vs:List Value}{hb₀:Heap}{hid:List Addr}{FA:Sg}{Q:Value->Shared->Prop}
 (hf:s.heap.get? f=some (fnMade name qual params body scope oF doc pm c' nE)) (tU:s.heap.CodeRec (.ref c') qual) (r:bH A (k+1)) (B:C.B hb₀) (dP: ∀b o,hb₀.get? b=some o->s.heap.get? b=some o) (eU: ∀b∈hid,hb₀.get? b=none) (nR: ∀b∈hid,(s.heap.get? b).isSome=true)
 (gK:aU C.wc s.heap (λa=>a∉hid) vs ds)
 (hb:bindArgs (fnX name qual params body scope oF .none .none doc pm none (.ref c') nE) ⟨vs,[]⟩=pure ((params.args.map (·.arg)).zip vs))
 (hl:(params.args.map (·.arg)).length=ds.length) (qp:(params.args.map (·.arg)).Nodup) (iL: ∀x∈params.args.map (·.arg),scope.names.lookup x=some .local) (hcell: ∀x∈scope.names,x.2≠.cell)
 (MB: ∀x c,oF.lookup x=some c->(s.heap.get? c).isSome=true/\ c∉hid)
 (YB: ∀x g d,FA.get x=some (g,d)->scope.names.lookup x=some .free/\ (x==("__classdict__" :Str))=false/\ ∃c v,oF.lookup x=some c/\ s.heap.IsCell c (some v)/\ Slot C.wc s.heap ⟨hid,hid⟩ g v d)
 (YC: ∀x y dx dy,FA.get x=some (true,dx)->FA.get y=some (true,dy)->x=y)
 (d_: ∀A' env ah,bH A' k->env.cells=oF->cG s ah->St C scope ((scope.names.filter λy=>y.2== .free).map (·.1)) env (hideAll s.heap hid) (gZ (params.args.map (·.arg)) ds++FA) ⟨s.heap.objs.size::hid,s.heap.objs.size::hid⟩ ah->
   wpAny (model C.prog C.w) A' (execs body env) (λf s'=>Q (match f with| .ret v=>v|_=>.none) s') (λ_ _=>False) ah)
 (hk:autoParam (scope.kind= .function) au) (rO:autoParam (scope.isCoroutine=false) au) (jN:autoParam (scope.isGenerator=false) au):wpAny (model C.prog C.w) A (PySem.call (.ref f) vs) Q (λ_ _=>False) s:=by
 have Bs:C.B s.heap:=C.keeps _ _ B dP
 have hg: ∀b o,(hideAll s.heap hid).get? b=some o->s.heap.get? b=some o:=λb o e=>of_hideAll _ e
 have zB: ∀b o,b∉hid->s.heap.get? b=some o->(hideAll s.heap hid).get? b=some o:=λb o hb e=>hideAll_get _ e hb
 have Bh:C.B (hideAll s.heap hid):=C.keeps _ _ B λb o e=>zB b o (λm=>by rw[eU b m] at e;cases e) (dP b o e)
 refine wpAny_call (codeAny_call_def (fd:=fnX name qual params body scope oF .none .none doc pm none (.ref c') nE) (body:=body) (binds:=(params.args.map (·.arg)).zip vs) r.lt hf rfl (C.nolimit _ Bs) tU rfl (BindsTo.of_eq hb) hcell (λx hx=>iL _ (kq hx).1) (λbX mT keep=>?_) rO jN hk)
 have nL:s.heap.get? s.heap.objs.size=none:=bg _
 have N8:(bX.get? s.heap.objs.size).isSome=true:=by obtain⟨oL,_,_,h,_⟩:=mT;rw[h];rfl
 have YD: ∀x,scope.names.lookup x=some .free->x∈(scope.names.filter λy=>y.2== .free).map (·.1):=λx h=>by
  obtain⟨uN,yf,e,_⟩:=ly.mp h
  exact aQ.mpr ⟨(x,.free),fh.mpr ⟨by rw[e];simp,rfl⟩,rfl⟩
 let fd:=fnX name qual params body scope oF .none .none doc pm none (.ref c') nE
 let env:=callEnv fd s.heap.objs.size f
 let ah:Shared:={s with heap:=bX,toks:=s.toks+((params.args.map (·.arg)).zip vs).length}
 have ga:=Sg.get_append
 have CD: ∀b o,s.heap.get? b=some o->bX.get? b=some o:=keep
 have S:St C scope ((scope.names.filter λy=>y.2== .free).map (·.1)) env (hideAll s.heap hid) (gZ (params.args.map (·.arg)) ds++FA) ⟨s.heap.objs.size::hid,s.heap.objs.size::hid⟩ ah:={
  scope:=rfl
  kind:=hk
  glob:=rfl
  blt:=rfl
  base:=Bh
  keep:=λb o e=>keep b o (hg b o e)
  fresh:=λb hb=>by
   rcases aB.mp hb with rfl|hb
   · cases z:(hideAll s.heap hid).get? s.heap.objs.size with
     |none=>rfl
     |some o=>rw[hg _ _ z] at nL;cases nL
   · exact hideAll_none _ hb
  alive:=λb hb=>by
   rcases aB.mp hb with rfl|hb
   · exact N8
   · obtain⟨o,z⟩:=c_.mp (nR b hb)
     show(bX.get? b).isSome=true
     rw[keep b o z];rfl
  ns:=⟨_,mT⟩
  eN:=.head _
  sub:=λb hb=>hb
  cells:=λx hx=>absurd hx (mC hcell)
  gb:=λx y c hx=>absurd hx (mC hcell)
  free:=λx hx=>YD x hx
  pe:=λx c _ hc=>by
   obtain⟨al,nh⟩:=MB x c hc
   obtain⟨o,z⟩:=c_.mp al
   rw[zB c o nh z];rfl
  vars:=λx g d' e=>by
   rw[ga] at e
   cases e1:Sg.get (gZ (params.args.map (·.arg)) ds) x with
   |some q=>
    rw[e1] at e
    injection e with e;subst e
    obtain⟨rfl,v,hv,rp⟩:=iS gK e1
    have hx:x∈params.args.map (·.arg):=by
     obtain⟨uN,yf,e,_⟩:=ly.mp hv
     have:(x,v)∈(params.args.map (·.arg)).zip vs:=by rw[e];simp
     exact(kq this).1
    refine⟨v,.inl ⟨iL x hx,_,mT,rN qp hv⟩,?_⟩
    refine(Rep.alive rp).mono (λb hb hm=>?_) λb o _ e=>keep b o e
    rcases aB.mp hm with rfl|hm
    · have h2:=hb.2
      rw[bg] at h2;cases h2
    · exact hb.1 hm
   |none=>
    rw[e1] at e
    refine bk λG hG=>?_
    obtain⟨pQ,FD,c,v,hc,hic,sl⟩:=YB x g d' e
    refine hG ?_;clear hG G
    refine⟨v,.inr ⟨.inr ⟨pQ,FD⟩,c,hc,br hic λo e=>keep _ o e⟩,?_⟩
    cases g with
    |false=>
     refine(Rep.alive sl).mono (λb hb hm=>?_) λb o _ e=>keep b o e
     rcases aB.mp hm with rfl|hm
     · have h2:=hb.2
       rw[bg] at h2;cases h2
     · exact hb.1 hm
    |true=>
     refine bk λG hG=>?_
     obtain⟨b,ws,es,f1,f2,K6,f3,f4,f5,f6⟩:=sl
     refine hG ?_;clear hG G
     refine⟨b,ws,es,f1,.tail _ f2,.tail _ K6,f3,f4.at (λo e=>keep _ o e),f5,?_⟩
     refine(aU.alive f6).mono (λb hb hm=>?_) λb o _ e=>keep b o e
     rcases aB.mp hm with rfl|hm
     · have h2:=hb.2
       rw[bg] at h2;cases h2
     · exact hb.1 hm
  inj:=λx y dx dy b e1 e2 _ _=>by
   have Hh: ∀x d,Sg.get (gZ (params.args.map (·.arg)) ds++FA) x=some (true,d)->Sg.get FA x=some (true,d):=λx d e=>by
    rw[ga] at e
    cases e1:Sg.get (gZ (params.args.map (·.arg)) ds) x with
    |some q=>
     rw[e1] at e
     injection e with e;subst e
     obtain⟨h,_⟩:=iS gK e1
     cases h
    |none=>rw[e1] at e;exact e
   exact YC x y dx dy (Hh x dx e1) (Hh y dy e2)}
 exact aT (d_ _ env ah (r.deeper env) rfl (cG.mk' (s:=s) keep) S) (λ_ _ h=>h) λ_ _ h=>h.elim
noncomputable def fy(n i:Nat):Stmt:=(fBody (bW n)).getD i (.Pass default)
theorem qc(n X c:Nat):dF n (X:Int) (c+1)=((X %2 ^n:Nat):Int)::dF n ((X/2 ^n:Nat):Int) c:=by
 have e:(2:Int) ^n=((2 ^n:Nat):Int):=by rw[Int.natCast_pow];rfl
 show(X:Int).fmod (2 ^n)::dF n ((X:Int).fdiv (2 ^n)) c=_
 rw[e,Int.fmod_eq_emod_of_nonneg _ (bR _),rD _ (bR _)]
 rfl
theorem xm(n c2:Nat): ∀(c1 X:Nat),dF n (X:Int) (c1+c2)=dF n ((X %2 ^(n*c1):Nat):Int) c1++dF n ((X/2 ^(n*c1):Nat):Int) c2:=by
 intro l0
 induction l0 with
 |zero=>
  intro X
  simp[dF]
 |succ c1 ih=>
  intro X
  rw[show c1+1+c2=(c1+c2)+1 by omega,qc,qc,ih]
  have e:2 ^(n*(c1+1))=2 ^n*2 ^(n*c1):=by rw[Nat.mul_add,Nat.mul_one,Nat.pow_add,Nat.mul_comm]
  rw[e,Nat.mod_mul_right_div_self,Nat.div_div_eq_div_mul,Nat.mod_mul_right_mod]
  rfl
theorem FE(X s:Nat):X&&&(X/2 ^s*2 ^s)=X/2 ^s*2 ^s:=by
 rw[<-Nat.shiftLeft_eq,<-Nat.shiftRight_eq_div_pow]
 apply Nat.eq_of_testBit_eq
 intro i
 rw[Nat.testBit_and,Nat.testBit_shiftLeft,Nat.testBit_shiftRight]
 by_cases h:s<=i
 · rw[show s+(i-s)=i by exact R1 h];simp[h]
 · simp[h]
theorem yM(X s:Nat):Builtin.bitXor (X:Int) ((X/2 ^s*2 ^s:Nat):Int)=((X %2 ^s:Nat):Int):=by
 have h1:Builtin.bitAnd (X:Int) ((X/2 ^s*2 ^s:Nat):Int)=((X/2 ^s*2 ^s:Nat):Int):=by
  unfold Builtin.bitAnd
  have e1:decide (0<=(X:Int))=true:=by simp
  have e2:decide (0<=((X/2 ^s*2 ^s:Nat):Int))=true:=decide_eq_true (bR _)
  rw[e1,e2]
  show((X&&&(X/2 ^s*2 ^s):Nat):Int)=_
  rw[FE]
 rw[bitXor_and,h1]
 have:=Nat.div_add_mod X (2 ^s)
 rw[Nat.mul_comm] at this
 exact WJ this
noncomputable def put(L:Nat)(dg l:List Int):List Int:=l.take L++(dg++l.drop (L+dg.length))
theorem FF{L:Nat}{dg l:List Int}(h:L+dg.length<=l.length):(put L dg l).length=l.length:=by
 unfold put;simp;exact Wk h
theorem FG{L:Nat}{d1 d2 l:List Int}(h:L+(d1.length+d2.length)<=l.length):put (L+d1.length) d2 (put L d1 l)=put L (d1++d2) l:=by
 unfold put
 have h1:(l.take L).length=L:=by simp;exact Km h
 have h2:(l.take L++d1).length=L+d1.length:=by simp;exact Km h
 have e:l.take L++(d1++l.drop (L+d1.length))=(l.take L++d1)++l.drop (L+d1.length):=(lq _ _ _).symm
 rw[e,List.take_left' h2,List.drop_append,h2]
 rw[List.drop_eq_nil_of_le (as:=l.take L++d1) (TJ h2)]
 simp[List.drop_drop]
 congr 1
 exact Tf
theorem FH{L:Nat}{d:Int}{l:List Int}(h:L<l.length):l.set L d=put L [d] l:=by
 unfold put
 rw[List.set_eq_take_append_cons_drop]
 simp[h]
noncomputable def Bu(C:Cx)(k:Nat)(f lA:Addr)(x:Int)(L c:Nat)(dg:List Int):Prop:=
 ∀(A:Around) (s:Shared) (vs:List Value) (hb:Heap) (l:List Int) (vl:Array Value) (Q:Value->Shared->Prop),bH A k->C.B hb->(∀b o,hb.get? b=some o->s.heap.get? b=some o)->hb.get? lA=none->PlainL s.heap lA vl->vl.size<=sizeLine->aU C.wc s.heap (λ_=>True) vl.toList (l.map D.int)->
  aU C.wc s.heap (λ_=>True) vs [.int x,.int L,.int ((L+c:Nat):Int)]->L+c<=l.length->
  (∀s' JK,aO [lA] s s'->PlainL s'.heap lA JK->JK.size<=sizeLine->aU C.wc s'.heap (λ_=>True) JK.toList ((put L dg l).map D.int)->Q .none s')->wpAny (model C.prog C.w) A (PySem.call (.ref f) vs) Q (λ_ _=>False) s
theorem xo(l:List Int): ∀d∈l.map D.int,d.sc=true:=λd h=>by
 obtain⟨i,_,rfl⟩:=aQ.mp h;rfl
section
variable{C:Cx}{sc:Scope}{ro:List Str}{k:Nat}{σ:Sg}{P:Sg->Fl->Prop}{A:Around}{env:Env}{h₀:Heap}{own:Ow}{s s':Shared}
theorem aK.addr{x:Str}{pos:Pos}{a:Addr}(hx:σ.get x=some (false,.addr a))(hd:autoParam ((x==("__debug__" :Str))=false) au):aK C sc ro k σ (.Name x pos) (.ref a):=
 λA env h₀ own s Q r S q=>Ev.name hx hd A env h₀ own s Q r S λv s' a' rp=>by
  have:v= .ref a:=rp
  rw[this];exact q s' a'
theorem wp_call{func:Expr}{args:List Expr}{pos:Pos}{f:Value}{ds:List D}{Q:Value->Shared->Prop}(hf:aK C sc ro k σ func f)(ha:Ar C sc ro k σ args .any ds)(Pk:Heap->Prop)(hk: ∀h,Pk h-> ∃kp,(kp=Keeper.frame \/kp=Keeper.machine \/kp=Keeper.boundFrame)/\ Looks (model C.prog C.w) h (keeperOf f) kp)(YE: ∀aE,cG s aE->Pk aE.heap)(r:bH A k)(S:St C sc ro env h₀ σ own s)
 (h: ∀vs aE,cG s aE->St C sc ro env h₀ σ own aE->aU C.wc aE.heap (λ_=>True) vs ds->wpAny (model C.prog C.w) A (PySem.call f vs) Q (λ_ _=>False) aE)
 (he:autoParam (∀env,eval (.Call func args [] pos) env=(do callWith pos (<-eval func env) [] (backTo pos (starEach args env)) (backToKw pos (keywordEach [] env)))) au):
 wpAny (model C.prog C.w) A (eval (.Call func args [] pos) env) Q (λ_ _=>False) s:=by
 rw[he]
 refine ao (hf A env h₀ own s _ r S λah az=>?_)
 refine callWith_of (P:=Pk) (by show((backTo pos (starEach args env)).any (·.1)||_)=false;rw[ha.2];rfl) hk ?_
 have bE:=S.cX az
 refine di (ha.2 env pos) (ha.1 A env h₀ own ah pos _ r bE λvs aE a₂ gK=>⟨YE _ (az.trans a₂),?_⟩)
 exact h vs aE (az.trans a₂) (bE.cX a₂) gK
theorem cH.FI{pos:Pos}(hp:P σ (.ret .none)):cH C sc ro k σ (.Return none pos) P:=λA env h₀ own s Q r S q=>
 wpAny_Return_none (q _ (.ret .none) s σ own (aO.refl _ _) (λ_ h _=>h) (λ_ h=>.inl h) S ⟨.none,rfl,rfl⟩ hp)
noncomputable def oJ(C:Cx)(E:Env->Prop)(sc:Scope)(ro:List Str)(k:Nat)(σ:Sg)(t:Env->Sem Flow)(P:Sg->Fl->Prop):Prop:=
 ∀(A:Around) (env:Env) (h₀:Heap) (own:Ow) (s:Shared) (Q:Flow->Shared->Prop),bH A k->E env->St C sc ro env h₀ σ own s->
  (∀f fl s' aq own',aO own.mu s s'->(∀b∈own.av,b∉own.mu->b∈own'.av)->(∀b∈own'.mu,b∈own.mu \/s.heap.get? b=none)->St C sc ro env h₀ aq own' s'->ye C.wc h₀ s'.heap fl f->P aq fl->Q f s')->
  wpAny (model C.prog C.w) A (t env) Q (λ_ _=>False) s
variable{E:Env->Prop}
theorem kM.toE{t:Env->Sem Flow}(h:kM C sc ro k σ t P):oJ C E sc ro k σ t P:=λA env h₀ own s Q r _ S q=>h A env h₀ own s Q r S q
theorem oJ.one{st:Stmt}{rest:List Stmt}{R:Sg->Prop}(h:oJ C E sc ro k σ (exec st) λaq fl=>(fl= .next/\ R aq) \/(fl≠.next/\ P aq fl))(hn: ∀aq,R aq->oJ C E sc ro k aq (execs rest) P):oJ C E sc ro k σ (execs (st::rest)) P:=by
 intro A env h₀ own s Q r hE S q
 refine eX (h A env h₀ own s _ r hE S λf fl s' aq own' a o1 o2 S' fi p=>?_)
 cases fl with
 |next=>
  subst fi
  have hR:R aq:=p.elim (·.2) λh=>absurd rfl h.1
  exact hn aq hR A env h₀ own' s' _ r hE S' λf fl iJ nP nQ a' HH BR EO HJ p'=>q f fl iJ nP nQ (a.trans a' λz hz=>o2 z hz) (λb hb hm=>HH b (o1 b hb hm) λq=>(o2 b q).elim hm λn=>by have:=S.alive b hb;rw[n] at this;cases this) (λb hb=>(BR b hb).elim (λh=>o2 b h) λh=>by
   by_cases hm:b∈own.mu
   · exact .inl hm
   · refine .inr ?_
     cases e:s.heap.get? b with
     |none=>rfl
     |some o=>rw[a.heap b o hm e] at h;cases h) EO HJ p'
 |brk=>subst fi;exact q _ .brk s' aq own' a o1 o2 S' rfl (p.elim (λh=>nomatch h.1) (·.2))
 |cont=>subst fi;exact q _ .cont s' aq own' a o1 o2 S' rfl (p.elim (λh=>nomatch h.1) (·.2))
 |ret d=>
  obtain⟨v,rfl,rp⟩:=fi
  exact q _ (.ret d) s' aq own' a o1 o2 S' ⟨v,rfl,rp⟩ (p.elim (λh=>nomatch h.1) (·.2))
theorem oJ.ex{st:Stmt}{rest:List Stmt}{R:Sg->Prop}(h:cH C sc ro k σ st λaq fl=>(fl= .next/\ R aq) \/(fl≠.next/\ P aq fl))(hn: ∀aq,R aq->oJ C E sc ro k aq (execs rest) P):oJ C E sc ro k σ (execs (st::rest)) P:=oJ.one (kM.toE h) hn
theorem oJ.nil(h:P σ .next):oJ C E sc ro k σ (execs []) P:=kM.toE (Ex.nil h)
theorem oJ.set{x:Str}{px pos:Pos}{e:Expr}{rest:List Stmt}{f:Bool}{d:D}(h:aP C sc ro k σ e f d)(hx:Bound sc ro x)(hn:oJ C E sc ro k (σ.set x f d) (execs rest) P)
 (hs: ∀env,env.scope=sc->swapsWith e (some (.Name x px)) pos.line env=pure false:=by intro env h;cases env;cases h;rfl):oJ C E sc ro k σ (execs (.Assign [.Name x px] e pos::rest)) P:=
 oJ.ex (R:=λaq=>aq=σ.set x f d) (cH.assign h hx (.inl ⟨rfl,rfl⟩) hs) λaq e=>e▸hn
theorem Dh{args:List Expr}{nm x:Str}{pn iM pos:Pos}{fa lA:Addr}{xv:Int}{L c:Nat}{dg l:List Int}{C₂:Cx}{hb:Shared->Heap}{Q:Flow->Shared->Prop}(S:St C sc ro env h₀ σ own s)(r:bH A k)(hf:aK C sc ro k σ (.Name nm pn) (.ref fa))(ha:Ar C sc ro k σ args .any [.int xv,.int L,.int ((L+c:Nat):Int)])(Pk:Heap->Prop)(hk: ∀h,Pk h-> ∃kp,(kp=Keeper.frame \/kp=Keeper.machine \/kp=Keeper.boundFrame)/\ Looks (model C.prog C.w) h (keeperOf (.ref fa)) kp)(YE: ∀aE,cG s aE->Pk aE.heap)
 (hx:σ.get x=some (true,DL l)) (hc:L+c<=l.length) (mq:dg.length=c) (I:Bu C₂ k fa lA xv L c dg) (hw:C₂.wc=C.wc) (hp:C₂.prog=C.prog) (EZ:C₂.w=C.w) (va:cg env s.heap x (.ref lA))
 (Lp: ∀aE,cG s aE->St C sc ro env h₀ σ own aE->C₂.B (hb aE)/\ (∀b o,(hb aE).get? b=some o->aE.heap.get? b=some o)/\ (hb aE).get? lA=none)
 (q: ∀s',aO own.mu s s'->St C sc ro env h₀ (σ.set x true (DL (put L dg l))) own s'->Q .next s'):
 wpAny (model C.prog C.w) A (exec (.Expr (.Call (.Name nm pn) args [] iM) pos) env) Q (λ_ _=>False) s:=by
 have hi:interactive env=false:=by
  unfold interactive
  rw[S.scope,S.kind];rfl
 refine wpAny_Expr (wp_call hf ha Pk hk YE r S λvs aE a₂ bK gK=>?_) hi rfl
 refine bk λG hG=>?_
 obtain⟨v,lV,a,vl,ds',rfl,h1,kh,e3,h2,h3,h4⟩:=bK.vars x _ _ hx
 refine hG ?_;clear hG G
 injection e3 with e3;subst e3
 have zP:cg env aE.heap x (.ref lA):=va.mono λb o e=>a₂.get e
 cases lV.det zP
 obtain⟨b1,b2,b3⟩:=Lp aE a₂ bK
 rw[<-hp,<-EZ]
 refine I A aE vs (hb aE) l vl _ r b1 b2 b3 h2 h3 (by rw[hw];exact h4.mono (λ_ _=>trivial) λ_ _ _ e=>e) (by rw[hw];exact gK) hc λs' JK a' p1 p2 p3=>?_
 rw[hw] at p3
 refine q s' ⟨λb o hb e=>a'.heap b o (λm=>hb (by rw[ay.mp m];exact h1)) (a₂.get e),a'.os.trans a₂.os,a₂.gens.trans a'.gens⟩ ?_
 exact bK.zy hx zP h1 h2 (λb o hb e=>a'.heap b o (λm=>hb (ay.mp m)) e) p1 p2 (aU.dH p3 (xo _))
end
noncomputable def qd(cn ci ca:Addr):List (Str×Addr):=[("n",cn),("inner",ci),("a_digits",ca)]
structure vH(h:Heap)(f ca cn ci lA:Addr)(n:Nat)(qual:Str):Prop where
 fn: ∃doc pm c' nE,h.get? f=some (fnMade (dI (fy 9 1)) qual (pX (fy 9 1)) (fBody (fy 9 1)) (fScope (fy 9 1)) (qd cn ci ca) doc pm c' nE)/\ h.CodeRec (.ref c') qual
 ca:h.IsCell ca (some (.ref lA))
 cn: ∃t,h.IsCell cn (some (.int n t))
 ci:h.IsCell ci (some (.ref f))
theorem oK{h h':Heap}{c:Value}{q:Str}(x:h.CodeRec c q)(k: ∀b o,h.get? b=some o->h'.get? b=some o):h'.CodeRec c q:=by
 obtain⟨c₂,o,vs,u,e,ho,r⟩:=x
 exact⟨c₂,o,vs,u,e,k _ _ ho,r⟩
theorem vH.mono{h h':Heap}{f ca cn ci lA:Addr}{n:Nat}{qual:Str}(x:vH h f ca cn ci lA n qual)(k: ∀b o,h.get? b=some o->h'.get? b=some o):vH h' f ca cn ci lA n qual where
 fn:=by obtain⟨doc,pm,c',nE,e,r⟩:=x.fn;exact⟨doc,pm,c',nE,k _ _ e,oK r k⟩
 ca:=br x.ca λo e=>k _ o e
 cn:=by obtain⟨t,e⟩:=x.cn;exact⟨t,br e λo e=>k _ o e⟩
 ci:=br x.ci λo e=>k _ o e
noncomputable abbrev Di(sc:Scope):List Str:=(sc.names.filter λy=>y.2== .free).map (·.1)
noncomputable def Hi(x:Int)(L R:Nat)(l:List Int)(n:Nat)(f:Addr):Sg:=[("x",false,.int x),("L",false,.int L),("R",false,.int R),("a_digits",true,DL l),("n",false,.int n),("inner",false,.addr f)]
theorem uu{C:Cx}{k:Nat}{f ca cn ci lA:Addr}{n:Nat}{qual:Str}{x:Int}{L c:Nat}{dg:List Int}(Hc: ∀h,C.B h->vH h f ca cn ci lA n qual)
 (hE: ∀l:List Int,L+c<=l.length->l.length<=sizeLine->oJ C (λenv=>env.cells=qd cn ci ca) (fScope (fy 9 1)) (Di (fScope (fy 9 1))) k (Hi x L (L+c) l n f) (execs (fBody (fy 9 1))) λaq fl=>(fl= .ret .none \/fl= .next)/\ aq.get "a_digits" =some (true,DL (put L dg l))):
 Bu C (k+1) f lA x L c dg:=by
 intro A s vs hb₀ l vl Q r B dP eU EI hsz hvl zw hlen q
 have H:=Hc _ (C.keeps _ _ B dP)
 have H0:=Hc _ B
 refine bk λG hG=>?_
 obtain⟨doc,pm,c',nE,ho,tU⟩:=H.fn
 obtain⟨tn,I6⟩:=H.cn
 refine hG ?_;clear hG G
 have I7: ∀{b v},hb₀.IsCell b v->b≠lA:=λh e=>by
  obtain⟨o,ho,_⟩:=h
  simp only[e,eU] at ho;cases ho
 have I8: ∀{h:Heap} {b v},h.IsCell b v->(h.get? b).isSome=true:=λh=>by
  obtain⟨o,ho,_⟩:=h;rw[ho];rfl
 obtain⟨tn0,YF⟩:=H0.cn
 have Cr:vs.length=3:=zw.length
 refine ur (hid:=[lA]) (FA:=[("a_digits",true,DL l),("n",false,.int n),("inner",false,.addr f)]) ho tU r B dP (λb hb=>by rw[ay.mp hb];exact eU) (λb hb=>?_) (aU.dH zw ?_) ?_ rfl (by decide) (by decide) (by decide) (λx c hx=>?_) (λx g d hx=>?_) (λx y dx dy e1 e2=>?_) (λA' env ah r' jJ az S=>?_) rfl rfl rfl
 · rw[ay.mp hb]
   obtain⟨o,n',e,_⟩:=EI
   rw[e];rfl
 · intro d hd;simp at hd;rcases hd with rfl|rfl|rfl<;>rfl
 · obtain⟨u,v,w,rfl⟩:=BZ Cr
   rfl
 · have:c=cn \/c=ci \/c=ca:=by
    unfold qd at hx
    rcases eY hx with hx|hx
    · subst hx;exact .inl rfl
    rcases eY hx with hx|hx
    · subst hx;exact .inr (.inl rfl)
    rcases eY hx with hx|hx
    · subst hx;exact .inr (.inr rfl)
    cases hx
   rcases this with rfl|rfl|rfl
   · exact⟨I8 I6,λm=>I7 YF (ay.mp m)⟩
   · exact⟨I8 H.ci,λm=>I7 H0.ci (ay.mp m)⟩
   · exact⟨I8 H.ca,λm=>I7 H0.ca (ay.mp m)⟩
 · rcases Sg.bO hx with⟨e0,hx⟩|⟨_,hx⟩
   · subst e0;cases hx
     exact⟨rfl,rfl,ca,.ref lA,rfl,H.ca,lA,vl,_,rfl,.head _,.head _,rfl,EI,hsz,aU.dH hvl (xo _)⟩
   rcases Sg.bO hx with⟨e0,hx⟩|⟨_,hx⟩
   · subst e0;cases hx
     exact⟨rfl,rfl,cn,_,rfl,I6,_,rfl⟩
   rcases Sg.bO hx with⟨e0,hx⟩|⟨_,hx⟩
   · rw[e0];cases hx
     exact⟨rfl,rfl,ci,_,rfl,H.ci,rfl⟩
   cases hx
 · have one: ∀x d,Sg.get [("a_digits",true,DL l),("n",false,.int n),("inner",false,.addr f)] x=some (true,d)->x= "a_digits":=λx d hx=>by
    rcases Sg.bO hx with⟨e0,hx⟩|⟨_,hx⟩
    · exact e0
    rcases Sg.bO hx with⟨e0,hx⟩|⟨_,hx⟩
    · cases hx
    rcases Sg.bO hx with⟨e0,hx⟩|⟨_,hx⟩
    · cases hx
    cases hx
   rw[one x dx e1,one y dy e2]
 · have hln:=hvl.length
   simp only[gV,aM] at hln
   refine hE l hlen (Ra hln hsz) A' env _ _ ah _ r' jJ S λfl fd s' aq own' av o1 o2 S' fi p=>?_
   refine bk λG hG=>?_
   obtain⟨p1,p2⟩:=p
   obtain⟨v,va,a,JK,ds',rfl,h1,kh,e3,h2,h3,h4⟩:=S'.vars _ _ _ p2
   refine hG ?_;clear hG G
   injection e3 with e3;subst e3
   have hN:=Hc _ S'.B
   have zP:cg env s'.heap "a_digits" (.ref lA):=.inr ⟨.inr ⟨by show env.scope.names.lookup _=_;rw[S'.scope];rfl,rfl⟩,ca,by rw[jJ];rfl,hN.ca⟩
   cases va.det zP
   have key:Q .none s':=q s' JK ⟨λb o hb e=>by
    refine av.heap b o (λm=>?_) (az.get e)
    rcases aB.mp m with rfl|m
    · rw[bg] at e;cases e
    · exact hb m,av.os.trans az.os,az.gens.trans av.gens⟩ h2 h3 (aU.dH h4 (xo _))
   rcases p1 with rfl|rfl
   · obtain⟨v,rfl,rfl⟩:=fi;exact key
   · subst fi;exact key
theorem aA.in9{C:Cx}{f ca cn ci lA:Addr}{n:Nat}{qual:Str}(Hc: ∀h,C.B h->vH h f ca cn ci lA n qual):aA C (.ref f):=λh B=>by
 obtain⟨doc,pm,c',nE,ho,_⟩:=(Hc _ B).fn
 exact⟨.frame,.inl rfl,(Looks.ld (part:=none) ho).andThen .now⟩
theorem MC(X s:Nat):(X:Int).fdiv (2 ^s)=((X/2 ^s:Nat):Int):=by
 have e:(2:Int) ^s=((2 ^s:Nat):Int):=by rw[Int.natCast_pow];rfl
 rw[e,rD _ (bR _)];rfl
theorem xq(L c:Nat):((L:Int)+((L+c:Nat):Int)).fdiv (2 ^(1:Int).toNat)=((L+c/2:Nat):Int):=by
 show((L:Int)+((L+c:Nat):Int)).fdiv (2 ^1)=_
 rw[rD _ (by decide)]
 exact Wr
theorem zQ{C:Cx}{k:Nat}{f ca cn ci lA:Addr}{n X L:Nat}{qual:Str}(Hc: ∀h,C.B h->vH h f ca cn ci lA n qual)(hX:X<2 ^(n*1)):Bu C (k+1) f lA X L 1 (dF n X 1):=by
 have hX1:dF n (X:Int) 1=[(X:Int)]:=by
  rw[qc,Nat.mod_eq_of_lt (by simpa using hX)];rfl
 rw[hX1]
 refine uu Hc λl hl hls=>?_
 refine oJ.ex (R:=λ_=>False) (cH.ite (b:=true) ?_ (λ_=>?_) (λh=>nomatch h)) λ_ h=>h.elim
 · have e:(((L:Int)+1==((L+1:Nat):Int)))=true:=by simp
   rw[<-e]
   exact Te.cmp (Ev.bin (Ev.o (.int L) rfl) Ev.aG ak.add|>.up (.inl rfl)) (Ev.o (.int ((L+1:Nat):Int)) rfl) aH.eq
 · refine Ex.setItem (x:="a_digits") (ds:=l.map D.int) (i:=(L:Int)) (d:=.int X) rfl (Ev.o _ rfl) (Ev.o (.int X) rfl) rfl (Q0) (by rw[aM];exact SY hl) ?_
   refine Ex.one (R:=λ_=>False) (cH.FI (.inr ⟨Fl.noConfusion,.inr ⟨Fl.noConfusion,.inl rfl,?_⟩⟩)) λ_ h=>h.elim
   show some (true,D.list ((l.map D.int).set (L:Int).toNat (.int X)))=_
   rw[<-FH (Q5 hl),<-List.map_set];rfl
theorem oJ.inn{C:Cx}{k:Nat}{f ca cn ci lA:Addr}{n:Nat}{qual:Str}(Hc: ∀h,C.B h->vH h f ca cn ci lA n qual){σ:Sg}{args:List Expr}{pn iM pos:Pos}{x:Int}{L c:Nat}{dg l:List Int}{rest:List Stmt}{P:Sg->Fl->Prop}
 (I:Bu C k f lA x L c dg) (hd:dg.length=c) (hl:L+c<=l.length) (h1:σ.get "inner" =some (false,.addr f)) (h2:σ.get "a_digits" =some (true,DL l)) (ha:Ar C (fScope (fy 9 1)) (Di (fScope (fy 9 1))) k σ args .any [.int x,.int L,.int ((L+c:Nat):Int)])
 (hr:oJ C (λenv=>env.cells=qd cn ci ca) (fScope (fy 9 1)) (Di (fScope (fy 9 1))) k (σ.set "a_digits" true (DL (put L dg l))) (execs rest) P):
 oJ C (λenv=>env.cells=qd cn ci ca) (fScope (fy 9 1)) (Di (fScope (fy 9 1))) k σ (execs (.Expr (.Call (.Name "inner" pn) args [] iM) pos::rest)) P:=by
 refine oJ.one (R:=λaq=>aq=σ.set "a_digits" true (DL (put L dg l))) (λA env h₀ own s Q r jJ S q=>?_) λaq e=>e▸hr
 have va:cg env s.heap "a_digits" (.ref lA):=.inr ⟨.inr ⟨by show env.scope.names.lookup _=_;rw[S.scope];rfl,rfl⟩,ca,by rw[jJ];rfl,(Hc _ S.B).ca⟩
 refine Dh (C₂:=C) (hb:=λ_=>h₀) S r (aK.addr h1) ha C.B (aA.in9 Hc) (λaE a₂=>(S.cX a₂).B) h2 hl hd I rfl rfl rfl va (λaE a₂ bK=>⟨bK.base,bK.keep,?_⟩) λs' a' S'=>q .next .next s' _ own a' (λb hb _=>hb) (λb hb=>.inl hb) S' rfl (.inl ⟨rfl,rfl⟩)
 refine bk λG hG=>?_
 obtain⟨v,lV,a,vl,ds',rfl,m1,EE,e3,_⟩:=bK.vars _ _ _ h2
 refine hG ?_;clear hG G
 cases lV.det (va.mono λb o e=>a₂.get e)
 exact bK.fresh _ EE
theorem Dj{X s m:Nat}(h:X<2 ^m):Builtin.Int.intBits ((X/2 ^s:Nat):Int)<=m:=by
 rw[intBits_le_iff]
 show X/2 ^s<2 ^m
 exact Nat.lt_of_le_of_lt (Nat.div_le_self _ _) h
theorem Dk{C:Cx}{k:Nat}{f ca cn ci lA:Addr}{n:Nat}{qual:Str}(Hc: ∀h,C.B h->vH h f ca cn ci lA n qual)(hn:1<=n): ∀(d X L c:Nat),1<=c->c<=2 ^d->X<2 ^(n*c)->n*c<=200000->Bu C (k+d+1) f lA X L c (dF n X c):=by
 intro d
 induction d with
 |zero=>
  intro X L c yj BW hX hb
  have:c=1:=by have:c<=1:=BW;exact Z9 yj BW
  subst this
  exact zQ Hc hX
 |succ d ih=>
  intro X L c yj BW hX hb
  by_cases h1:c=1
  · subst h1
    exact zQ Hc hX
  · have hc:2<=c:=by exact Qp yj h1
    have hp:2 ^(d+1)=2 ^d+2 ^d:=by rw[Nat.pow_succ];exact Z2
    obtain⟨c1,e1⟩: ∃c1,c1=c/2:=⟨_,rfl⟩
    obtain⟨c2,e2⟩: ∃c2,c2=c-c/2:=⟨_,rfl⟩
    have ec:c=c1+c2:=KC e2 e1
    have l1:1<=c1:=Rb hc e1
    have l2:1<=c2:=SE hc e2
    have g1:c1<=2 ^d:=by omega
    have g2:c2<=2 ^d:=by omega
    have JL:n*c=n*c1+n*c2:=by simp only[ec,Nat.mul_add]
    have b1:X %2 ^(n*c1)<2 ^(n*c1):=Nat.mod_lt _ (Nat.pow_pos (by decide))
    have b2:X/2 ^(n*c1)<2 ^(n*c2):=by
     rw[Nat.div_lt_iff_lt_mul (Nat.pow_pos (by decide)),<-Nat.pow_add,Nat.add_comm,<-JL];exact hX
    have I1:=ih (X %2 ^(n*c1)) L c1 l1 g1 b1 (Ua JL hb)
    have I2:=ih (X/2 ^(n*c1)) (L+c1) c2 l2 g2 b2 (Ub JL hb)
    have hsp:=xm n c2 c1 X
    rw[<-ec] at hsp
    rw[hsp]
    have d1:=j_ n c1 ((X %2 ^(n*c1):Nat):Int)
    have d2:=j_ n c2 ((X/2 ^(n*c1):Nat):Int)
    generalize dF n ((X %2 ^(n*c1):Nat):Int) c1=D1 at*
    generalize dF n ((X/2 ^(n*c1):Nat):Int) c2=D2 at*
    refine uu Hc λl hl hls=>?_
    refine oJ.ex (R:=λaq=>aq=Hi X L (L+c) l n f) (cH.ite (b:=false) ?_ (λh=>nomatch h) (λ_=>Ex.nil (.inl ⟨rfl,rfl⟩))) λaq e=>?_
    · have e:(((L:Int)+1==((L+c:Nat):Int)))=false:=by simp;exact Qq hc
      rw[<-e]
      exact Te.cmp (Ev.bin (Ev.o (.int L) rfl) Ev.aG ak.add|>.up (.inl rfl)) (Ev.o (.int ((L+c:Nat):Int)) rfl) aH.eq
    subst e
    refine oJ.set (d:=.int ((L+c1:Nat):Int)) (aP.jg (by rw[e1,<-xq];exact Ev.bin (Ev.bin (Ev.o (.int L) rfl) (Ev.o (.int ((L+c:Nat):Int)) rfl) ak.add|>.up (.inl rfl)) Ev.aG (ak.shr (by decide))) rfl) ⟨.inl rfl,by decide⟩ ?_
    have es:(((L+c1:Nat):Int)-(L:Int))*(n:Int)=((n*c1:Nat):Int):=by
     simp only[show((L+c1:Nat):Int)-(L:Int)=(c1:Int) by exact Kn,Int.natCast_mul,iy]
    have aaD:n<=200000:=by
     have:n*1<=n*c:=Nat.mul_le_mul_left n yj
     exact Kd this hb
    have I6:c<=200000:=by
     have:1*c<=n*c:=lz c hn
     exact ZE this hb
    refine oJ.set (d:=.int ((n*c1:Nat):Int)) (aP.jg (by rw[<-es];exact Ev.bin (Ev.bin (Ev.o (.int ((L+c1:Nat):Int)) rfl) (Ev.o (.int L) rfl) ak.sub|>.up (.inl rfl)) (Ev.o (.int n) rfl) (ak.mul (lg (intBits_le_64 (Ko) (Wz e1 I6))))) rfl) ⟨.inl rfl,by decide⟩ ?_
    refine oJ.set (d:=.int ((X/2 ^(n*c1):Nat):Int)) (aP.jg (by rw[<-MC];exact Ev.bin (Ev.o (.int X) rfl) (Ev.o (.int ((n*c1:Nat):Int)) rfl) (ak.shr (b:=((n*c1:Nat):Int)) (Q0))) rfl) ⟨.inl rfl,by decide⟩ ?_
    have ex:((X/2 ^(n*c1):Nat):Int)*2 ^((n*c1:Nat):Int).toNat=((X/2 ^(n*c1)*2 ^(n*c1):Nat):Int):=by
     simp only[show((n*c1:Nat):Int).toNat=n*c1 from Int.toNat_natCast _,Int.natCast_mul,Int.natCast_pow];rfl
    refine oJ.set (d:=.int ((X %2 ^(n*c1):Nat):Int)) (aP.jg (by
     simp only[<-yM,<-ex]
     exact Ev.bin (Ev.o (.int X) rfl) (Ev.bin (Ev.o (.int ((X/2 ^(n*c1):Nat):Int)) rfl) (Ev.o (.int ((n*c1:Nat):Int)) rfl) (ak.shl (b:=((n*c1:Nat):Int)) (Q0) (by have:=Dj (s:=n*c1) hX;exact WK JL hb this))|>.up (.inl rfl)) ak.xor) rfl) ⟨.inl rfl,by decide⟩ ?_
    refine oJ.inn Hc I1 d1 (l:=l) (Kr hl e1) rfl rfl (Ar.cons (Ev.o _ rfl) (Ar.cons (Ev.o _ rfl) (Ar.cons (Ev.o _ rfl) Ar.nil))) ?_
    have EI:=FF (L:=L) (dg:=D1) (l:=l) (VL hl e1 d1)
    have ES:L+c1+c2=L+c:=KO e2 e1
    refine oJ.inn Hc I2 d2 (l:=put L D1 l) (W6 hl e2 e1 EI) rfl rfl (by rw[ES];exact Ar.cons (Ev.o _ rfl) (Ar.cons (Ev.o _ rfl) (Ar.cons (Ev.o _ rfl) Ar.nil))) ?_
    refine oJ.nil ⟨.inr rfl,?_⟩
    show some (true,DL (put (L+c1) D2 (put L D1 l)))=_
    rw[<-d1,FG (Xh hl e2 e1 d1 d2)]
theorem eH.FJ{t:qQ}{c:Option Addr}{h:Heap}{c':Addr}{q:Str}(x:eH t c h)(y:h.CodeRec (.ref c') q):c'≠t.P:=λe=>by
 obtain⟨c₂,o,vs,u,e',ho,hd,hv⟩:=y
 cases e'
 cases c with
 |none=>
  rw[e,show h.get? t.P=_ from x] at ho
  cases ho
  cases hd
  cases hv
 |some c=>
  rw[e,x.1] at ho
  cases ho
  cases hd
  cases hv
section
variable{C:Cx}{sc:Scope}{ro:List Str}{k:Nat}{σ:Sg}{P:Sg->Fl->Prop}{A:Around}{env:Env}{h₀:Heap}{own:Ow}{s s':Shared}
theorem zR{t t':qQ}{c1 JM:Option Addr}{name:Str}{params:Arguments}{body:List Stmt}{scope:Scope}{oF:List (Str×Addr)}{pos:Pos}{Q:Flow->Shared->Prop}(X:xj C t)(iO:t'.P≠t.P)(S:St C sc ro env h₀ σ own s)(oG:env.code= .ref t.c)(jJ:closureFor scope env=pure oF)
 (hq:qualnameIn env name name=t.qual) (oq:pos=t.pos) (tab:eH t c1 s.heap) (MD:eH t' JM s.heap) (hPv:t.P∈own.av) (NO:t.P∉own.mu) (YG:t'.P∉own.mu) (YH: ∀c,c1=some c->c∉own.mu) (YI: ∀c,JM=some c->c∉own.mu)
 (hx:sc.names.lookup name=some .local \/sc.names.lookup name=some .cell) (hr:name∉ro) (EF:params.defaults=[]) (Fv:params.kw_defaults=[]) (ha:annTrees params none env=[])
 (h: ∀f c' s',aO (t.P::own.mu) s s'->(∀a vs,PlainL s.heap a vs->PlainL s'.heap a vs)->s.heap.get? f=none->(c1=some c' \/s.heap.get? c'=none)->eH t (some c') s'.heap->eH t' JM s'.heap->(∃doc pm nE,s'.heap.get? f=some (fnMade name t.qual params body scope oF doc pm c' nE))->
   St C sc ro env h₀ (σ.set name false (.addr f)) own s'->Q .next s'):
 wpAny (model C.prog C.w) A (exec (.FunctionDef name params body [] none [] scope none name pos) env) Q (λ_ _=>False) s:=by
 refine I4 X S.B oG S.glob jJ hq oq tab EF Fv ha λf c' ah keep os gens hf hc tab₁ I5=>?_
 have bE:St C sc ro env h₀ σ own ah:=S.jO (wr:=[t.P]) (wr':=[]) (λb o hb e=>keep b o (λz=>hb (by rw[z];exact .head _)) e) (λb hb=>by rw[ay.mp hb];exact hPv) (λb hb=>by rw[ay.mp hb];exact NO) (λb hb=>by rw[ay.mp hb];exact tab₁.sF) (λ_ h=>nomatch h) λ_ h=>nomatch h
 have nm: ∀b,s.heap.get? b=none->b∉own.mu:=λb e m=>by
  have:=S.alive b (S.sub b m)
  rw[e] at this;cases this
 have FL:eH t' JM ah.heap:=MD.keep (F:=λb=>b≠t.P) iO (λc e=>by subst e;exact tab.FJ MD.2) λb o hb e=>keep b o hb e
 have cm:c'∉own.mu:=by
  rcases hc with e|⟨_,e⟩
  · exact YH _ e
  · exact nm _ e
 refine St.store (f:=false) (d:=.addr f) bE rfl hx hr (λh=>nomatch h) λaE a₂ pl bK=>?_
 obtain⟨doc,pm,nE,v_⟩:=I5
 refine h f c' aE ⟨λb o hb e=>a₂.heap b o (λm=>hb (.tail _ m)) (keep b o (λz=>hb (by rw[z];exact .head _)) e),a₂.os.trans os,by rw[<-gens];exact a₂.gens⟩ (λa vs p=>pl a vs ?_) hf (hc.imp id (·.2)) ?_ ?_ ⟨doc,pm,nE,a₂.heap _ _ (nm f hf) v_⟩ bK
 · obtain⟨o,n,e,r1,r2,r3⟩:=p
   refine⟨o,n,keep a o (λz=>?_) e,r1,r2,r3⟩
   obtain⟨ps,e'⟩:=tab.obj
   rw[z,e'] at e;cases e;cases r3
 · exact tab₁.keep (F:=λb=>b∉own.mu) NO (λc e=>by cases e;exact cm) λb o hb e=>a₂.heap b o hb e
 · exact FL.keep (F:=λb=>b∉own.mu) YG YI λb o hb e=>a₂.heap b o hb e
end
theorem ME{env:Env}{ca cn ci:Addr}(h1:env.cells.lookup ("a_digits" :Str)=some ca)(h2:env.cells.lookup ("inner" :Str)=some ci)(h3:env.cells.lookup ("n" :Str)=some cn):closureFor (fScope (fy 9 1)) env=pure (qd cn ci ca):=by
 have e1:cellOf env "a_digits" =pure ca:=by unfold cellOf;rw[h1]
 have e2:cellOf env "inner" =pure ci:=by unfold cellOf;rw[h2]
 have e3:cellOf env "n" =pure cn:=by unfold cellOf;rw[h3]
 have hN:(fScope (fy 9 1)).names=[(("x" :Str),NameKind.local),(("L" :Str),NameKind.local),(("R" :Str),NameKind.local),(("mid" :Str),NameKind.local),(("shift" :Str),NameKind.local),(("upper" :Str),NameKind.local),(("lower" :Str),NameKind.local),(("a_digits" :Str),NameKind.free),(("inner" :Str),NameKind.free),(("n" :Str),NameKind.free)]:=rfl
 have t1:(NameKind.local==NameKind.free)=false:=rfl
 have t2:(NameKind.free==NameKind.free)=true:=rfl
 simp only[closureFor,hN,List.forIn_cons,List.forIn_nil,e1,e2,e3,pure_bind,t1,t2,if_true,wo,if_false]
 rfl
structure FN(C:Cx)(T:jL)(fI fV:Addr):Prop where
 fx1:xj C T.t1
 fx2:xj C T.t2
 ne:T.t1.P≠T.t2.P
 q1:T.t1.qual= "_int2digits.<locals>.inner"
 q2:T.t2.qual= "_digits2int.<locals>.inner"
 p1:T.t1.pos=posOf (fy 9 1)
 p2:T.t2.pos=posOf (fy 10 0)
 a9:oH C fI (dI (bW 9)) (pX (bW 9)) (fBody (bW 9)) (fScope (bW 9)) T.t1.c
 a10:oH C fV (dI (bW 10)) (pX (bW 10)) (fBody (bW 10)) (fScope (bW 10)) T.t2.c
 len:bT C "len" (.builtin "len")
theorem St.cellOf{C:Cx}{sc:Scope}{ro:List Str}{σ:Sg}{env:Env}{h₀:Heap}{own:Ow}{s:Shared}(S:St C sc ro env h₀ σ own s){x:Str}{f:Bool}{d:D}(e:σ.get x=some (f,d))(hk:sc.names.lookup x=some .cell)(hr:x∉ro):
 ∃c v,env.cells.lookup x=some c/\ s.heap.IsCell c (some v)/\ c∈own.mu/\ cg env s.heap x v/\ Slot C.wc s.heap own f v d:=by
 have hkx:env.kindOf x=some .cell:=by unfold Env.kindOf;rw[S.scope];exact hk
 refine bk λG hG=>?_
 obtain⟨c,iK,hc,hi,hm⟩:=S.cells x hkx hr
 obtain⟨v,va,sl⟩:=S.vars x f d e
 refine hG ?_;clear hG G
 refine⟨c,v,hc,?_,hm,va,sl⟩
 rcases va with⟨ky,_⟩|⟨ky,c',qq,we⟩
 · cases (hkx).symm.trans ky
 · rw[hc] at qq;injection qq with qq;subst qq;exact we
theorem Dl(n:Nat):(List.replicate n ([.int 0]:List D)).flatten=(List.replicate n (0:Int)).map D.int:=by
 induction n with
 |zero=>rfl
 |succ n ih=>simp only[jz,mQ,ih,jz];rfl
theorem FO{dg:List Int}{c:Nat}(h:dg.length=c):put 0 dg (List.replicate c 0)=dg:=by
 unfold put
 rw[List.drop_eq_nil_of_le (by simp;exact ZT h)]
 simp
noncomputable def MF(N n:Nat)(l:List Int):Sg:=[("a",false,.int N),("n",false,.int n),("a_digits",true,DL l)]
section
variable{C:Cx}{T:jL}{k:Nat}{fI fV:Addr}
theorem MG(X:FN C T fI fV){N n:Nat}(hn:1<=n)(zO:n<=4000)(hN:Bt 100000 (N:Int)):qR C T (k+19) (.ref fI) [.int N,.int n] (DL (dF n N (bU N n))):=by
 intro A s vs hb₀ F Q r B dP eU ht gK q
 have MH:vs.length=2:=gK.length
 have aF:sizeLine=16777216:=rfl
 have xh:N<2 ^Builtin.Int.intBits (N:Int):=(show(N:Int).natAbs<_ from intBits_le_iff.mp (aR _))
 obtain⟨c,hc⟩: ∃c,c=bU (N:Int) n:=⟨_,rfl⟩
 have hcB:n*c<=Builtin.Int.intBits (N:Int)+n:=by
  rw[hc];unfold bU
  have:=Nat.mul_div_le (Builtin.Int.intBits (N:Int)+n-1) n
  exact S1 this
 have YJ:Builtin.Int.intBits (N:Int)<=n*c:=by
  rw[hc];unfold bU
  have:=Nat.div_add_mod (Builtin.Int.intBits (N:Int)+n-1) n
  have:=Nat.mod_lt (Builtin.Int.intBits (N:Int)+n-1) hn
  exact Ks (by assumption) this
 have YK:N<2 ^(n*c):=Nat.lt_of_lt_of_le xh (Nat.pow_le_pow_right (by decide) YJ)
 have hB:Builtin.Int.intBits (N:Int)<=100000:=hN
 have I9:c<=2 ^17:=by
  have:1*c<=n*c:=lz c hn
  have:(2:Nat) ^17=131072:=rfl
  exact Ws (by assumption) hcB hN zO
 have Mz:TS T (λb=>(s.heap.get? b).isSome=true/\ F b) s.heap:=ht.keep (λ_ _ _ e=>e) λb hb al=>⟨al,hb⟩
 refine bk λG hG=>?_
 obtain⟨c1,c2,ta,tb,f1,f2,g1,g2⟩:=Mz
 refine hG ?_;clear hG G
 rw[<-hc] at q
 refine yL (T:=T) (hb₀:=hb₀) (F:=F) X.a9 r B dP eU ht gK ?_ rfl (by decide) (by decide) (by decide) (λA' env al ah r' oG zS S az dead=>?_) rfl rfl rfl
 · intro pm cd doc vs hl
   obtain⟨v,w,rfl⟩:=mS hl
   rfl
 refine eX (cH.assign (f:=true) (d:=DL (List.replicate c 0)) ?_ ⟨.inr rfl,ai⟩ (P:=λaq fl=>fl= .next/\ aq=MF N n (List.replicate c 0)) ⟨rfl,rfl⟩ (by intro env h;cases env;subst h;rfl) A' env _ _ ah _ r' S λf fl aE aah iH Dm o1 o2 bK fi p=>?_)
 · have ev:((Builtin.Int.intBits (N:Int):Int)+(n:Int)-1).fdiv (n:Int)=(c:Int):=by
    rw[hc];unfold bU
    rw[rD _ (bR _)]
    rw[show(Builtin.Int.intBits (N:Int):Int)+(n:Int)-1=((Builtin.Int.intBits (N:Int)+n-1:Nat):Int) by omega]
    rfl
   refine aP.own (ds:=(List.replicate c (0:Int)).map D.int) ?_
   rw[<-Dl]
   refine Ev.bin (Ev.list (ds:=[.int 0]) (md:=.any) (Ar.cons Ev.aG Ar.nil) (by decide)) ?_ (ak.zC (n:=(c:Int)) (λd hd=>by rw[ay.mp hd];rfl) (Qs) (by have:(2:Nat) ^17=131072:=rfl;exact R2 I9) (by have:(2:Nat) ^17=131072:=rfl;show 1*(c:Int).toNat<=_;exact VT aF I9))
   rw[<-ev]
   exact Ev.bin (Ev.bin (Ev.bin (Ev.bits (Ev.o (.int N) rfl)|>.up (.inl rfl)) (Ev.o (.int n) rfl) ak.add|>.up (.inl rfl)) Ev.aG ak.sub|>.up (.inl rfl)) (Ev.o (.int n) rfl) (ak.fdiv (by simp;exact ZR hn) (iX (by
    rw[Int.natAbs_natCast]
    have:n.log2<4000:=(Nat.log2_lt (OS hn)).mpr (Nat.lt_of_lt_of_le (Nat.lt_two_pow_self) (Nat.pow_le_pow_right (by decide) zO))
    exact Z0 this)))|>.up (.inl rfl)
 obtain⟨rfl,rfl⟩:=p
 subst fi
 have mu2: ∀b∈iH.mu,s.heap.get? b=none:=λb hb=>by
  rcases o2 b hb with h|h
  · exact dead b h
  · exact az.none h
 have off: ∀b,(s.heap.get? b).isSome=true->b∉iH.mu:=λb al m=>by rw[mu2 b m] at al;cases al
 have Dn: ∀b o,(s.heap.get? b).isSome=true->s.heap.get? b=some o->aE.heap.get? b=some o:=λb o al e=>Dm.heap b o (λm=>by rw[dead b m] at al;cases al) (az.get e)
 have YL:eH T.t1 c1 aE.heap:=ta.keep (F:=λb=>(s.heap.get? b).isSome=true) f1.1 (λc e=>(g1 c e).1) Dn
 have MI:eH T.t2 c2 aE.heap:=tb.keep (F:=λb=>(s.heap.get? b).isSome=true) f2.1 (λc e=>(g2 c e).1) Dn
 have kc: ∀x,(fScope (bW 9)).names.lookup x=some .cell->env.kindOf x=some .cell:=λx h=>by unfold Env.kindOf;rw[bK.scope];exact h
 refine bk λG hG=>?_
 obtain⟨ca,_,MJ,_,_⟩:=bK.cells "a_digits" (kc _ rfl) ai
 obtain⟨ci,_,MK,_,_⟩:=bK.cells "inner" (kc _ rfl) ai
 obtain⟨cn,_,MM,_,_⟩:=bK.cells "n" (kc _ rfl) ai
 refine hG ?_;clear hG G
 have I_:T.t1.P∈iH.av:=o1 _ (b_ _ (.head _)) (λm=>by have:=dead _ m;rw[this] at f1;exact absurd f1.1 (by decide))
 refine eX (zR (c1:=c1) (JM:=c2) X.fx1 (λe=>X.ne e.symm) bK oG (ME MJ MK MM) ?_ X.p1.symm YL MI I_ (off _ f1.1) (off _ f2.1) (λc e=>off _ (g1 c e).1) (λc e=>off _ (g2 c e).1) (.inr rfl) ai rfl rfl rfl λf c' aV cL pl3 hf qq MN YM YN dX=>?_)
 · unfold qualnameIn
   rw[kc _ rfl,zS,X.q1]
   rfl
 have S3:St C (fScope (bW 9)) [] env (hideAll s.heap T.Ps) [("a",false,.int N),("n",false,.int n),("a_digits",true,DL (List.replicate c 0)),("inner",false,.addr f)] iH aV:=dX
 refine bk λG hG=>?_
 obtain⟨_,va,FP,ia,ma,vaa,YO⟩:=S3.cellOf (x:="a_digits") rfl rfl ai
 refine hG ?_;clear hG G
 rw[MJ] at FP;injection FP with FP;subst FP
 refine bk λG hG=>?_
 obtain⟨_,vi,FQ,ii,mi,_,YQ⟩:=S3.cellOf (x:="inner") rfl rfl ai
 refine hG ?_;clear hG G
 rw[MK] at FQ;injection FQ with FQ;subst FQ
 refine bk λG hG=>?_
 obtain⟨_,vn,FT,iN,mn,_,YR⟩:=S3.cellOf (x:="n") rfl rfl ai
 refine hG ?_;clear hG G
 rw[MM] at FT;injection FT with FT;subst FT
 refine bk λG hG=>?_
 obtain⟨lA,vl,ds',rfl,lAm,lAv,el,pl,szl,rl⟩:=YO
 refine hG ?_;clear hG G
 have YS:vi= .ref f:=YQ
 subst YS
 obtain⟨tn,rfl⟩:=YR
 have cm':c'∉iH.mu:=by
  rcases qq with e|e
  · exact off _ (g1 _ e).1
  · exact λm=>by have:=bK.alive _ (bK.sub _ m);rw[e] at this;cases this
 have Hj:=j_ n c (N:Int)
 have fin: ∀cR,aO iH.mu aV cR->St C (fScope (bW 9)) [] env (hideAll s.heap T.Ps) [("a",false,.int N),("n",false,.int n),("a_digits",true,DL (dF n N c)),("inner",false,.addr f)] iH cR->
  wpAny (model C.prog C.w) A' (execs [fy 9 3] env) (λf s'=>Q (match f with| .ret v=>v|_=>.none) s') (λ_ _=>False) cR:=λcR g_ iF=>by
  refine eX (cH.mU (x:="a_digits") rfl (xo _) (P:=λaq fl=>fl= .ret (DL (dF n N c))) rfl rfl A' env _ _ cR _ r' iF λf' fl fF GN CE MO _ _ jk fi p=>?_)
  subst p
  obtain⟨v,rfl,rp⟩:=fi
  have YT:aO iH.mu aV fF:=g_.trans MO λz hz=>.inl hz
  have k36: ∀b o,b∉iH.mu->aV.heap.get? b=some o->fF.heap.get? b=some o:=λb o hb e=>YT.heap b o hb e
  have ts:TS T (λb=>F b \/s.heap.get? b=none) fF.heap:=⟨some c',c2,MN.keep (F:=λb=>b∉iH.mu) (off _ f1.1) (λc e=>by injection e with e;subst e;exact cm') k36,YM.keep (F:=λb=>b∉iH.mu) (off _ f2.1) (λc e=>off _ (g2 c e).1) k36,.inl f1.2,.inl f2.2,(λc e=>by
   injection e with e;subst e
   rcases qq with e|e
   · exact .inl (g1 _ e).2
   · refine .inr ?_
     cases z:s.heap.get? c' with
     |none=>rfl
     |some o=>cases (Dn c' o (by rw[z];rfl) z).symm.trans e),λc e=>.inl (g2 c e).2⟩
  refine q v fF ⟨λb o hb e=>jk.keep b o (hideAll_get _ e hb),YT.os.trans (cL.os.trans (Dm.os.trans az.os)),az.gens.trans (Dm.gens.trans (cL.gens.trans YT.gens))⟩ ts ((rp.zN ts (.inr ⟨_,.inl rfl,xo _⟩)).mono (λb hb=>?_) λ_ _ _ e=>e)
  cases z:s.heap.get? b with
  |none=>rfl
  |some o=>have:=hideAll_get _ z hb.2;cases (hb.1).symm.trans this
 refine eX (wpAny_If (Te.int (Ev.o (.int N) rfl) (by intros;rfl) A' env _ _ aV _ r' S3 λcP fm=>?_))
 have S4:=S3.cX fm
 by_cases h0:N=0
 · have e0:((N:Int) !=0)=false:=by rw[h0];rfl
   rw[e0]
   refine lS ?_
   have c0:c=0:=by rw[hc,h0];unfold bU;rw[show Builtin.Int.intBits ((0:Nat):Int)=0 from rfl,Nat.div_eq_of_lt (Z8 hn)]
   refine fin cP fm.toB ?_
   rw[c0] at S4 ⊢
   exact S4
 · have e0:((N:Int) !=0)=true:=by simp;exact PT h0
   rw[e0]
   have MQ:1<=c:=by
    rcases Nat.eq_zero_or_pos c with h|h
    · rw[h] at YK;simp at YK;omega
    · exact h
   let H:Heap->Prop:=λh=>vH h f ca cn ci lA n T.t1.qual
   have HK: ∀h h',H h->(∀b o,h.get? b=some o->h'.get? b=some o)->H h':=λh h' x k=>x.mono k
   have I:Bu (C.plus H HK) (k+18) f lA N 0 c (dF n N c):=Dk (C:=C.plus H HK) (k:=k) (λh x=>x.2) hn 17 N 0 c MQ I9 YK (Vy hcB hN zO)
   have Ja: ∀b o,aV.heap.get? b=some o->(∀its m,o.data≠.seq its m)->(hideAll aV.heap [lA]).get? b=some o:=λb o e hd=>hideAll_get _ e λm=>by
    obtain⟨o',m',e',_,_,e''⟩:=pl
    rw[ay.mp m,e'] at e
    injection e with e;subst e
    exact hd _ _ e''
   have vI: ∀b v,aV.heap.IsCell b v->(hideAll aV.heap [lA]).IsCell b v:=λb v ⟨o,e,hd⟩=>⟨o,Ja b o e (by rw[hd];intro _ _ h;cases h),hd⟩
   have xr:(C.plus H HK).B (hideAll aV.heap [lA]):=by
    refine⟨C.keeps _ _ S3.base λb o e=>hideAll_get _ (S3.keep b o e) (λm=>by rw[ay.mp m,S3.fresh _ lAv] at e;cases e),?_,vI _ _ ia,⟨tn,vI _ _ iN⟩,vI _ _ ii⟩
    obtain⟨doc,pm,nE,e⟩:=YN
    refine⟨doc,pm,c',nE,Ja _ _ e (by intro _ _ h;cases h),?_⟩
    refine bk λG hG=>?_
    obtain⟨c₂,o,tC,u,e1,ho,hd,hv⟩:=MN.2
    refine hG ?_;clear hG G
    exact⟨c₂,o,tC,u,e1,Ja _ _ ho (by rw[hd];intro _ _ h;cases h),hd,hv⟩
   refine eX (Dh (C₂:=C.plus H HK) (hb:=λ_=>hideAll aV.heap [lA]) (x:="a_digits") (l:=List.replicate c 0) (c:=c) S4 r' (aK.addr rfl) (Ar.cons (Ev.o (.int N) rfl) (Ar.cons Ev.aG (Ar.cons ?_ Ar.nil))) (C.plus H HK).B (aA.in9 (C:=C.plus H HK) λh x=>x.2) ?_ rfl (by simp) Hj I rfl rfl rfl (vaa.mono λb o e=>fm.get e) ?_ λcR g_ iF=>lS (fin cR ((fm.toB (own:=iH.mu)).trans g_ λz hz=>.inl hz) ?_))
   · have e:((0+c:Nat):Int)=(((List.replicate c (0:Int)).map D.int).length:Int):=by simp
     rw[e]
     exact Ev.call (ds:=[DL (List.replicate c 0)]) (aK.blt rfl X.len) (Ar.cons (Ev.p (DL (List.replicate c 0)) rfl) Ar.nil) aA.blt Fn.gm|>.up (.inl rfl)
   · intro cR g_
     exact(C.plus H HK).keeps _ _ xr λb o e=>g_.get (fm.get (of_hideAll _ e))
   · intro cR g_ iF
     exact⟨xr,λb o e=>g_.get (fm.get (of_hideAll _ e)),hideAll_none _ (.head _)⟩
   · have:=iF
     rw[FO Hj] at this
     exact this
end
noncomputable def vJ(cn ci cd:Addr):List (Str×Addr):=[("n",cn),("inner",ci),("digits",cd)]
structure sI(wc:Addr)(h:Heap)(f cd cn ci:Addr)(ds:List Int)(n:Nat)(qual:Str):Prop where
 fn: ∃doc pm c' nE,h.get? f=some (fnMade (dI (fy 10 0)) qual (pX (fy 10 0)) (fBody (fy 10 0)) (fScope (fy 10 0)) (vJ cn ci cd) doc pm c' nE)/\ h.CodeRec (.ref c') qual
 cd: ∃v,h.IsCell cd (some v)/\ Rep wc h (λ_=>True) v (DL ds)
 cn: ∃t,h.IsCell cn (some (.int n t))
 ci:h.IsCell ci (some (.ref f))
theorem sI.mono{wc:Addr}{h h':Heap}{f cd cn ci:Addr}{ds:List Int}{n:Nat}{qual:Str}(x:sI wc h f cd cn ci ds n qual)(k: ∀b o,h.get? b=some o->h'.get? b=some o):sI wc h' f cd cn ci ds n qual where
 fn:=by obtain⟨doc,pm,c',nE,e,r⟩:=x.fn;exact⟨doc,pm,c',nE,k _ _ e,oK r k⟩
 cd:=by obtain⟨v,e,rp⟩:=x.cd;exact⟨v,br e λo e=>k _ o e,Rep.ext rp k⟩
 cn:=by obtain⟨t,e⟩:=x.cn;exact⟨t,br e λo e=>k _ o e⟩
 ci:=br x.ci λo e=>k _ o e
theorem aA.Jb{C:Cx}{f cd cn ci:Addr}{ds:List Int}{n:Nat}{qual:Str}(Hc: ∀h,C.B h->sI C.wc h f cd cn ci ds n qual):aA C (.ref f):=λh B=>by
 refine bk λG hG=>?_
 obtain⟨doc,pm,c',nE,ho,_⟩:=(Hc _ B).fn
 refine hG ?_;clear hG G
 exact⟨.frame,.inl rfl,(Looks.ld (part:=none) ho).andThen .now⟩
noncomputable def Dp(L R:Nat)(ds:List Int)(n:Nat)(f:Addr):Sg:=[("L",false,.int L),("R",false,.int R),("digits",false,DL ds),("n",false,.int n),("inner",false,.addr f)]
theorem sJ{C:Cx}{k:Nat}{f cd cn ci:Addr}{ds:List Int}{n:Nat}{qual:Str}{L R:Nat}{d:Int}(Hc: ∀h,C.B h->sI C.wc h f cd cn ci ds n qual)
 (hE:Ex C (fScope (fy 10 0)) (Di (fScope (fy 10 0))) k (Dp L R ds n f) (fBody (fy 10 0)) λaq fl=>fl= .ret (.int d)):Fn C (k+1) (.ref f) [.int L,.int R] (.int d):=by
 intro A s vs Q r B gK q
 have H:=Hc _ B
 refine bk λG hG=>?_
 obtain⟨doc,pm,c',nE,ho,tU⟩:=H.fn
 obtain⟨tn,I6⟩:=H.cn
 obtain⟨vd,FD,rpd⟩:=H.cd
 refine hG ?_;clear hG G
 have I8: ∀{h:Heap} {b v},h.IsCell b v->(h.get? b).isSome=true:=λh=>by
  obtain⟨o,ho,_⟩:=h;rw[ho];rfl
 have Cr:vs.length=2:=gK.length
 refine ur (hid:=[]) (FA:=[("digits",false,DL ds),("n",false,.int n),("inner",false,.addr f)]) ho tU r B (λ_ _ e=>e) (λb hb=>nomatch hb) (λb hb=>nomatch hb) (gK.mono (λ_ _ h=>nomatch h) λ_ _ _ e=>e) ?_ rfl (by decide) (by decide) (by decide) (λx c hx=>?_) (λx g d hx=>?_) (λx y dx dy e1 e2=>?_) (λA' env ah r' jJ az S=>?_) rfl rfl rfl
 · obtain⟨u,v,rfl⟩:=mS Cr
   rfl
 · have:c=cn \/c=ci \/c=cd:=by
    unfold vJ at hx
    rcases eY hx with hx|hx
    · subst hx;exact .inl rfl
    rcases eY hx with hx|hx
    · subst hx;exact .inr (.inl rfl)
    rcases eY hx with hx|hx
    · subst hx;exact .inr (.inr rfl)
    cases hx
   rcases this with rfl|rfl|rfl
   · exact⟨I8 I6,λm=>nomatch m⟩
   · exact⟨I8 H.ci,λm=>nomatch m⟩
   · exact⟨I8 FD,λm=>nomatch m⟩
 · rcases Sg.bO hx with⟨e0,hx⟩|⟨_,hx⟩
   · subst e0;cases hx
     exact⟨rfl,rfl,cd,vd,rfl,FD,rpd.mono (λ_ _ h=>nomatch h) λ_ _ _ e=>e⟩
   rcases Sg.bO hx with⟨e0,hx⟩|⟨_,hx⟩
   · subst e0;cases hx
     exact⟨rfl,rfl,cn,_,rfl,I6,_,rfl⟩
   rcases Sg.bO hx with⟨e0,hx⟩|⟨_,hx⟩
   · rw[e0];cases hx
     exact⟨rfl,rfl,ci,_,rfl,H.ci,rfl⟩
   cases hx
 · rcases Sg.bO e1 with⟨e0,e1⟩|⟨_,e1⟩
   · cases e1
   rcases Sg.bO e1 with⟨e0,e1⟩|⟨_,e1⟩
   · cases e1
   rcases Sg.bO e1 with⟨e0,e1⟩|⟨_,e1⟩
   · cases e1
   cases e1
 · refine hE A' env _ _ ah _ r' S λfl fd s' aq own' av o1 o2 S' fi p=>?_
   subst p
   obtain⟨v,rfl,rp⟩:=fi
   refine q v s' ⟨λb o _ e=>S'.keep b o (hideAll_get _ e λh=>nomatch h),av.os.trans az.os,az.gens.trans av.gens⟩ (rp.dH rfl)
theorem oM(n:Nat): ∀(a b:List Int),valOf n (a++b)=valOf n a+2 ^(n*a.length)*valOf n b
 |[],b=>by simp[valOf]
 |d::r,b=>by
  show d+2 ^n*valOf n (r++b)=d+2 ^n*valOf n r+2 ^(n*(r.length+1))*valOf n b
  simp only[oM n r b,Nat.mul_add,Nat.mul_one,Int.pow_add,Int.mul_add,iy (2 ^(n*r.length)) (2 ^n),Int.mul_assoc,Int.add_assoc]
theorem Dq(n:Nat):Bt (n+1) (2 ^n):=by
 show Builtin.Int.intBits (2 ^n)<=n+1
 rw[intBits_le_iff,Int.natAbs_pow]
 show 2 ^n<2 ^(n+1)
 rw[Nat.pow_succ]
 have:=Nat.pow_pos (n:=n) (by decide:0<2)
 lia
theorem xu{n m:Nat}: ∀{l:List Int},(∀d∈l,Bt m d)->Bt (m+(n+2)*l.length) (valOf n l)
 |[],_=>Bt.zero
 |d::r,h=>by
  have ih:=xu (n:=n) (l:=r) λd hd=>h d (.tail _ hd)
  have h1:Bt m d:=h d (.head _)
  show Bt (m+(n+2)*(r.length+1)) (d+2 ^n*valOf n r)
  refine(Bt.add h1 (Bt.mul (Dq n) ih)).up ?_
  rw[Nat.mul_add]
  generalize (n+2)*r.length=z
  lia
theorem Bv(ds:List Int)(L c1 c2:Nat):(ds.drop L).take (c1+c2)=(ds.drop L).take c1++(ds.drop (L+c1)).take c2:=by
 simp only[List.take_add,List.drop_drop]
theorem Bw{C:Cx}{k:Nat}{f cd cn ci:Addr}{ds:List Int}{n:Nat}{qual:Str}(Hc: ∀h,C.B h->sI C.wc h f cd cn ci ds n qual)(hn:1<=n)(hb: ∀d∈ds,Bt 10000 d)(xY:n*ds.length<=200000):
 ∀(d L c:Nat),1<=c->c<=2 ^d->L+c<=ds.length->Fn C (k+d+1) (.ref f) [.int L,.int ((L+c:Nat):Int)] (.int (valOf n ((ds.drop L).take c))):=by
 have hlen:ds.length<=200000:=by
  have:1*ds.length<=n*ds.length:=lz _ hn
  lia
 have one: ∀(k L:Nat),L+1<=ds.length->Fn C (k+1) (.ref f) [.int L,.int ((L+1:Nat):Int)] (.int (valOf n ((ds.drop L).take 1))):=λk L hL=>by
  have e1:valOf n ((ds.drop L).take 1)=ds.getD L 0:=by
   rw[pD (by assumption)]
   show _+2 ^n*valOf n []=_
   simp[valOf,List.getD,cE (show L<ds.length by exact Q5 hL)]
  rw[e1]
  refine sJ Hc (Ex.ite (b:=true) (λ_=>False) ?_ (λ_=>?_) (λh=>nomatch h) λ_ h=>h.elim)
  · have e:(((L:Int)+1==((L+1:Nat):Int)))=true:=by simp
    rw[<-e]
    exact Te.cmp (Ev.bin (Ev.o (.int L) rfl) Ev.aG ak.add|>.up (.inl rfl)) (Ev.o (.int ((L+1:Nat):Int)) rfl) aH.eq
  · exact Ex.ret (md:=.any) (Ev.sub (md:=.any) (Ev.o (DL ds) rfl) (Ev.o (.int L) rfl) (aL.list (bQ (i:=L) (Q5 hL)) (Q0))) (.inl rfl) (.inr ⟨Fl.noConfusion,rfl⟩)
 intro d
 induction d with
 |zero=>
  intro L c yj BW hL
  have:c=1:=by have:c<=1:=BW;exact Z9 yj BW
  subst this
  exact one k L hL
 |succ d ih=>
  intro L c yj BW hL
  by_cases h1:c=1
  · subst h1
    exact one (k+d+1) L hL
  · have hp:2 ^(d+1)=2 ^d+2 ^d:=by rw[Nat.pow_succ];exact Z2
    obtain⟨c1,e1⟩: ∃c1,c1=c/2:=⟨_,rfl⟩
    obtain⟨c2,e2⟩: ∃c2,c2=c-c/2:=⟨_,rfl⟩
    have ec:c=c1+c2:=KC e2 e1
    have JL:n*c1<=n*ds.length:=Nat.mul_le_mul_left n (TL hL e1)
    have K9:n<=200000:=by
     have:n*1<=n*ds.length:=Nat.mul_le_mul_left n (Ry hL yj)
     exact Kd this xY
    have I1:=ih L c1 (Tg yj e1 h1) (by omega) (Kr hL e1)
    have I2:=ih (L+c1) c2 (SG yj e2) (by omega) (WL hL e2 e1)
    rw[show L+c1+c2=L+c by exact KO e2 e1] at I2
    have hv:valOf n ((ds.drop L).take c)=valOf n ((ds.drop (L+c1)).take c2)*2 ^(n*c1)+valOf n ((ds.drop L).take c1):=by
     simp only[ec,Bv,oM,iy,Int.add_comm]
     have:((ds.drop L).take c1).length=c1:=by simp;exact VU hL e1
     rw[this]
    have HN:Bt (10000+(n+2)*c2) (valOf n ((ds.drop (L+c1)).take c2)):=by
     have:=xu (n:=n) (m:=10000) (l:=(ds.drop (L+c1)).take c2) λd hd=>hb d (List.mem_of_mem_drop (List.mem_of_mem_take hd))
     rw[show((ds.drop (L+c1)).take c2).length=c2 by simp;exact W_ hL e2 e1] at this
     exact this
    have Ff:(n+2)*c2<=600000:=by
     have a1:(n+2)*c2<=(n+2)*ds.length:=Nat.mul_le_mul_left _ (U7 hL e2)
     have a2:(n+2)*ds.length=n*ds.length+2*ds.length:=Nat.add_mul _ _ _
     rw[a2] at a1
     generalize (n+2)*c2=z at*
     exact VX a1 xY hlen
    rw[hv]
    generalize valOf n ((ds.drop (L+c1)).take c2)=V2 at*
    generalize valOf n ((ds.drop L).take c1)=V1 at*
    refine sJ Hc (Ex.ite (b:=false) (λaq=>aq=Dp L (L+c) ds n f) ?_ (λh=>nomatch h) (λ_=>Ex.nil (.inl ⟨rfl,rfl⟩)) λaq e=>?_)
    · have e:(((L:Int)+1==((L+c:Nat):Int)))=false:=by simp;exact Rc h1
      rw[<-e]
      exact Te.cmp (Ev.bin (Ev.o (.int L) rfl) Ev.aG ak.add|>.up (.inl rfl)) (Ev.o (.int ((L+c:Nat):Int)) rfl) aH.eq
    subst e
    refine Ex.set (d:=.int ((L+c1:Nat):Int)) (aP.jg (by rw[e1,<-xq];exact Ev.bin (Ev.bin (Ev.o (.int L) rfl) (Ev.o (.int ((L+c:Nat):Int)) rfl) ak.add|>.up (.inl rfl)) Ev.aG (ak.shr (by decide))) rfl) ⟨.inl rfl,by decide⟩ ?_
    have es:(((L+c1:Nat):Int)-(L:Int))*(n:Int)=((n*c1:Nat):Int):=by
     simp only[show((L+c1:Nat):Int)-(L:Int)=(c1:Int) by exact Kn,Int.natCast_mul,iy]
    refine Ex.set (d:=.int ((n*c1:Nat):Int)) (aP.jg ((es.symm▸Ev.bin (Ev.bin (Ev.o (.int ((L+c1:Nat):Int)) rfl) (Ev.o (.int L) rfl) ak.sub|>.up (.inl rfl)) (Ev.o (.int n) rfl) (ak.mul (lg (intBits_le_64 (Ko) (W7 hL e1 hlen)))))) rfl) ⟨.inl rfl,by decide⟩ ?_
    have MR:Builtin.Int.intBits V2<=10000+(n+2)*c2:=HN
    have esh:2 ^(n*c1)=(2:Int) ^((n*c1:Nat):Int).toNat:=by rw[Int.toNat_natCast]
    rw[esh]
    exact Ex.ret (md:=.fresh) (Ev.bin (Ev.bin (Ev.call (aK.addr rfl) (Ar.cons (Ev.o (.int ((L+c1:Nat):Int)) rfl|>.up (.inl rfl)) (Ar.cons (Ev.o (.int ((L+c:Nat):Int)) rfl|>.up (.inl rfl)) Ar.nil)) (aA.Jb Hc) I2|>.up (.inl rfl)) (Ev.o (.int ((n*c1:Nat):Int)) rfl) (ak.shl (b:=((n*c1:Nat):Int)) (Q0) (Xa HN xY Ff JL))|>.up (.inl rfl)) (Ev.call (aK.addr rfl) (Ar.cons (Ev.o (.int L) rfl|>.up (.inl rfl)) (Ar.cons (Ev.o (.int ((L+c1:Nat):Int)) rfl|>.up (.inl rfl)) Ar.nil)) (aA.Jb Hc) I1|>.up (.inl rfl)) ak.add) (.inl rfl) rfl
theorem Jc{env:Env}{ca cn ci:Addr}(h1:env.cells.lookup ("digits" :Str)=some ca)(h2:env.cells.lookup ("inner" :Str)=some ci)(h3:env.cells.lookup ("n" :Str)=some cn):closureFor (fScope (fy 10 0)) env=pure (vJ cn ci ca):=by
 have e1:cellOf env "digits" =pure ca:=by unfold cellOf;rw[h1]
 have e2:cellOf env "inner" =pure ci:=by unfold cellOf;rw[h2]
 have e3:cellOf env "n" =pure cn:=by unfold cellOf;rw[h3]
 have hN:(fScope (fy 10 0)).names=[(("L" :Str),NameKind.local),(("R" :Str),NameKind.local),(("mid" :Str),NameKind.local),(("shift" :Str),NameKind.local),(("digits" :Str),NameKind.free),(("inner" :Str),NameKind.free),(("n" :Str),NameKind.free)]:=rfl
 have t1:(NameKind.local==NameKind.free)=false:=rfl
 have t2:(NameKind.free==NameKind.free)=true:=rfl
 simp only[closureFor,hN,List.forIn_cons,List.forIn_nil,e1,e2,e3,pure_bind,t1,t2,if_true,wo,if_false]
 rfl
section
variable{C:Cx}{T:jL}{k:Nat}{fI fV:Addr}
theorem MS(X:FN C T fI fV){ds:List Int}{n:Nat}(hn:1<=n)(zO:n<=4000)(xY:n*ds.length<=200000)(hbd: ∀d∈ds,Bt 10000 d):qR C T (k+20) (.ref fV) [DL ds,.int n] (.int (valOf n ds)):=by
 intro A s vs hb₀ F Q r B dP eU ht gK q
 have MH:vs.length=2:=gK.length
 have aF:sizeLine=16777216:=rfl
 have mq:ds.length<=200000:=by
  have:1*ds.length<=n*ds.length:=lz _ hn
  exact ZE this xY
 have Mz:TS T (λb=>(s.heap.get? b).isSome=true/\ F b) s.heap:=ht.keep (λ_ _ _ e=>e) λb hb al=>⟨al,hb⟩
 refine bk λG hG=>?_
 obtain⟨c2,c1,tb,ta,f2,f1,g2,g1⟩:=Mz
 refine hG ?_;clear hG G
 refine yL (T:=T) (hb₀:=hb₀) (F:=F) X.a10 r B dP eU ht gK ?_ rfl (by decide) (by decide) (by decide) (λA' env al aE r' oG zS bK az dead=>?_) rfl rfl rfl
 · intro pm cd doc vs hl
   obtain⟨v,w,rfl⟩:=mS hl
   rfl
 have off: ∀b,(s.heap.get? b).isSome=true->b∉al:=λb a m=>by rw[dead b m] at a;cases a
 have YL:eH T.t2 c1 aE.heap:=ta.keep (F:=λb=>(s.heap.get? b).isSome=true) f1.1 (λc e=>(g1 c e).1) λb o _ e=>az.get e
 have MI:eH T.t1 c2 aE.heap:=tb.keep (F:=λb=>(s.heap.get? b).isSome=true) f2.1 (λc e=>(g2 c e).1) λb o _ e=>az.get e
 have kc: ∀x,(fScope (bW 10)).names.lookup x=some .cell->env.kindOf x=some .cell:=λx h=>by unfold Env.kindOf;rw[bK.scope];exact h
 refine bk λG hG=>?_
 obtain⟨ca,_,MJ,_,_⟩:=bK.cells "digits" (kc _ rfl) ai
 obtain⟨ci,_,MK,_,_⟩:=bK.cells "inner" (kc _ rfl) ai
 obtain⟨cn,_,MM,_,_⟩:=bK.cells "n" (kc _ rfl) ai
 refine hG ?_;clear hG G
 have I_:T.t2.P∈al++T.Ps:=b_ _ (.tail _ (.head _))
 refine eX (zR (c1:=c1) (JM:=c2) X.fx2 X.ne bK oG (Jc MJ MK MM) ?_ X.p2.symm YL MI I_ (off _ f1.1) (off _ f2.1) (λc e=>off _ (g1 c e).1) (λc e=>off _ (g2 c e).1) (.inr rfl) ai rfl rfl rfl λf c' aV cL pl3 hf qq MN YM YN dX=>?_)
 · unfold qualnameIn
   rw[kc _ rfl,zS,X.q2]
   rfl
 have S3:St C (fScope (bW 10)) [] env (hideAll s.heap T.Ps) [("digits",false,DL ds),("n",false,.int n),("inner",false,.addr f)] ⟨al++T.Ps,al⟩ aV:=dX
 refine bk λG hG=>?_
 obtain⟨_,va,FP,ia,ma,vaa,YO⟩:=S3.cellOf (x:="digits") rfl rfl ai
 refine hG ?_;clear hG G
 rw[MJ] at FP;injection FP with FP;subst FP
 refine bk λG hG=>?_
 obtain⟨_,vi,FQ,ii,mi,_,YQ⟩:=S3.cellOf (x:="inner") rfl rfl ai
 refine hG ?_;clear hG G
 rw[MK] at FQ;injection FQ with FQ;subst FQ
 refine bk λG hG=>?_
 obtain⟨_,vn,FT,iN,mn,_,YR⟩:=S3.cellOf (x:="n") rfl rfl ai
 refine hG ?_;clear hG G
 rw[MM] at FT;injection FT with FT;subst FT
 have YS:vi= .ref f:=YQ
 subst YS
 obtain⟨tn,rfl⟩:=YR
 have cm':c'∉al:=by
  rcases qq with e|e
  · exact off _ (g1 _ e).1
  · exact λm=>by have:=bK.alive _ (bK.sub _ m);rw[e] at this;cases this
 let H:Heap->Prop:=λh=>sI C.wc h f ca cn ci ds n T.t2.qual
 have HK: ∀h h',H h->(∀b o,h.get? b=some o->h'.get? b=some o)->H h':=λh h' x k=>x.mono k
 have xr:(C.plus H HK).B aV.heap:=by
  refine⟨S3.B,?_,⟨va,ia,Rep.any YO⟩,⟨tn,iN⟩,ii⟩
  obtain⟨doc,pm,nE,e⟩:=YN
  exact⟨doc,pm,c',nE,e,MN.2⟩
 have I:1<=ds.length->Fn (C.plus H HK) (k+19) (.ref f) [.int (0:Nat),.int ((0+ds.length:Nat):Int)] (.int (valOf n ((ds.drop 0).take ds.length))):=λh1=>Bw (C:=C.plus H HK) (k:=k) (λh x=>x.2) hn hbd xY 18 0 ds.length h1 (by have:(2:Nat) ^18=262144:=rfl;exact Qz mq) (O4)
 have fin: ∀v fF,cG aV fF->Rep C.wc fF.heap (λ_=>True) v (.int (valOf n ds))->Q v fF:=λv fF kF rp=>by
  have jk:=S3.cX kF
  have ts:TS T (λb=>F b \/s.heap.get? b=none) fF.heap:=⟨c2,some c',YM.keep (F:=λ_=>True) trivial (λ_ _=>trivial) λb o _ e=>kF.get e,MN.keep (F:=λ_=>True) trivial (λ_ _=>trivial) λb o _ e=>kF.get e,.inl f2.2,.inl f1.2,(λc e=>.inl (g2 c e).2),λc e=>by
   injection e with e;subst e
   rcases qq with e|e
   · exact .inl (g1 _ e).2
   · refine .inr ?_
     cases z:s.heap.get? c' with
     |none=>rfl
     |some o=>cases (az.get z).symm.trans e⟩
  exact q v fF ⟨λb o hb e=>jk.keep b o (hideAll_get _ e hb),kF.os.trans (cL.os.trans az.os),az.gens.trans (cL.gens.trans kF.gens)⟩ ts (rp.dH rfl)
 refine eX (wpAny_Return_some ?_)
 show wpAny _ A' (do if<-isTrue _ env (eval _ env) then eval _ env else eval _ env) _ _ aV
 refine ao (Te.list (ds:=ds.map D.int) (Ev.o _ rfl) (by intros;rfl) A' env _ _ aV _ r' S3 λcP fm=>?_)
 have S4:=S3.cX fm
 cases jK:ds with
 |nil=>
  have hz:Ev C (fScope (bW 10)) [] (k+19) [("digits",false,DL ds),("n",false,.int n),("inner",false,.addr f)] ((H9 (Cs (fy 10 1))).getD 2 default) .any (.int 0):=Ev.aG
  refine hz A' env _ _ cP _ r' S4 λv cR g_ rp=>?_
  exact fin v cR (fm.trans g_) (by rw[jK];exact Rep.any rp)
 |cons d0 dr=>
  have h1:1<=ds.length:=by rw[jK];exact Nat.succ_le_succ (gi _)
  refine wp_call (ds:=[.int (0:Nat),.int ((0+ds.length:Nat):Int)]) (aK.addr rfl) (Ar.cons Ev.aG (Ar.cons ?_ Ar.nil)) (C.plus H HK).B (aA.Jb (C:=C.plus H HK) λh x=>x.2) (λcR g_=>(C.plus H HK).keeps _ _ xr λb o e=>g_.get (fm.get e)) r' S4 λws cR g_ iF rpw=>?_
  · have e:((0+ds.length:Nat):Int)=((ds.map D.int).length:Int):=by simp
    rw[e]
    exact Ev.call (ds:=[DL ds]) (aK.blt rfl X.len) (Ar.cons (Ev.o (DL ds) rfl) Ar.nil) aA.blt Fn.gm|>.up (.inl rfl)
  · refine I h1 A' cR ws _ r' ((C.plus H HK).keeps _ _ xr λb o e=>g_.get (fm.get e)) rpw λv fF kF rp=>?_
    rw[List.drop_zero,List.take_length] at rp
    exact fin v fF (fm.trans (g_.trans kF)) (Rep.any rp)
end
theorem MT{C:Cx}{T:jL}{k:Nat}{fD fI fV:Addr}(X:FN C T fI fV)(at2:bu C 7 fD)(Mv:bu C 9 fI)(Mw:bu C 10 fV)(lim:jT C "_DIV_LIMIT" (.int 4000))(dm:bT C "divmod" (.builtin "divmod"))(rv:bT C "reversed" (.type "reversed")):sH C T (k+20) fD fI fV where
 at2:=at2
 Mv:=Mv
 Mw:=Mw
 lim:=lim
 dm:=dm
 rv:=rv
 Bq:=λa n ha hn zO vG=>by
  obtain⟨N,rfl⟩: ∃N:Nat,a=N:=⟨a.toNat,R3 ha⟩
  exact(MG (k:=k) X hn zO vG).le (P4)
 Br:=λds n hn zO hl hd=>MS (k:=k) X hn zO hl hd
section
variable{C:Cx}{T:jL}{sc:Scope}{ro:List Str}{k:Nat}{σ τ:Sg}{P:Sg->Fl->Prop}{A:Around}{env:Env}{h₀:Heap}{own:Ow}{s s':Shared}
theorem bq.mV{target iter:Expr}{body:List Stmt}{pos:Pos}{ds:List D}(he:aN C sc ro k σ iter ds)(upd:Sg->D->Sg)(Inv:List D->Sg->Prop)(h0:Inv ds σ)
 (kr: ∀(A:Around) (env:Env) (h₀:Heap) (own:Ow) (s:Shared) (aq:Sg) (d:D) (rest:List D) (v:Value) (Q:Unit->Shared->Prop),bH A k->St C sc ro env h₀ aq own s->Inv (d::rest) aq->Rep C.wc s.heap (λ_=>True) v d->
   (∀s',aO own.mu s s'->St C sc ro env h₀ (upd aq d) own s'->Q () s')->wpAny (model C.prog C.w) A (PySem.assign target env v) Q (λ_ _=>False) s)
 (ku: ∀d rest aq,Inv (d::rest) aq->iZ target d)
 (turn: ∀d rest aq,Inv (d::rest) aq->bq C T sc ro k (upd aq d) (execs body) (TurnEnd (Inv rest) P)) (kB: ∀aq,Inv [] aq->P aq .next)
 (hs: ∀env x,foldedSetIterable iter env x=pure x:=by intro _ _;rfl):bq C T sc ro k σ (exec (.For target iter body [] pos)) P:=
 KZ.mV (Ps:=T.Ps) (X:=TS T) ⟨λx b hb=>by
  obtain⟨f1,f2,l1,l2⟩:=x.P1
  rcases aB.mp hb with rfl|hb
  · exact⟨f1,l1⟩
  · rw[ay.mp hb];exact⟨f2,l2⟩,TS.keep⟩ he upd Inv h0 kr ku turn kB hs
theorem bq.jV{α:Type}{x:Str}{px pos:Pos}{iter:Expr}{body rest:List Stmt}{items:List α}(vh:α->D)(τ:List α->Sg)(Ip:List α->Prop)(R:Sg->Prop)
 (he:aN C sc ro k σ iter (items.map vh)) (hd: ∀a∈items,(vh a).sc=true) (hb:Bound sc ro x) (h0:Sub (τ []) σ) (hi:Ip [])
 (turn: ∀done a left,items=done++a::left->Ip done->bq C T sc ro k ((τ done).set x false (vh a)) (execs body) λaq fl=>(fl= .next/\ Ip (done++[a])/\ Sub (τ (done++[a])) aq) \/(∃d,fl= .ret d/\ P aq (.ret d)))
 (kB:Ip items-> ∀aq,Le (τ items) aq->R aq) (hn: ∀aq,R aq->bq C T sc ro k aq (execs rest) P)
 (hs: ∀env x,foldedSetIterable iter env x=pure x:=by intro _ _;rfl):bq C T sc ro k σ (execs (.For (.Name x px) iter body [] pos::rest)) P:=by
 refine bq.one (R:=R) (bq.mV he (λσ d=>σ.set x false d) (λr aq=>∃done left,items=done++left/\ r=left.map vh/\ Le (τ done) aq/\ Ip done) ⟨[],items,rfl,rfl,h0.le,hi⟩ ?_ ?_ ?_ ?_ hs) hn
 · rintro A env h₀ own s aq d r v Q rm S ⟨done,left,e1,e2,dP,jW⟩ rp q
   cases left with
   |nil=>cases e2
   |cons a left=>
    rw[bN] at e2
    injection e2 with e3 e4
    subst e3
    exact fL (S.store (f:=false) (rp.dH (hd a (by rw[e1];simp))) hb.1 hb.2 (λh=>nomatch h) λs' a _ S'=>q s' a S')
 · rintro d r aq ⟨done,left,e1,e2,dP,jW⟩
   cases left with
   |nil=>cases e2
   |cons a left=>
    rw[bN] at e2
    injection e2 with e3 e4
    subst e3
    exact iZ.name (hd a (by rw[e1];simp))
 · rintro d r aq ⟨done,left,e1,e2,dP,jW⟩
   cases left with
   |nil=>cases e2
   |cons a left=>
    rw[bN] at e2
    injection e2 with e3 e4
    subst e3;subst e4
    refine((turn done a left e1 jW).weak (dP.set x false (vh a))).mono λkO f hf=>?_
    rcases hf with⟨rfl,h1,h2⟩|⟨d,rfl,h⟩
    · exact⟨done++[a],left,by rw[e1];simp,rfl,h2.le,h1⟩
    · exact .inr ⟨Fl.noConfusion,h⟩
 · rintro aq ⟨done,left,e1,e2,dP,jW⟩
   cases left with
   |cons _ _=>cases e2
   |nil=>rw[ez] at e1;subst e1;exact .inl ⟨rfl,kB jW aq dP⟩
end
end Mine
end
section
open PySem PySem.W PyProof.Rows
namespace Mine
section
variable{C:Cx}{sc:Scope}{ro:List Str}{k:Nat}{σ:Sg}{P:Sg->Fl->Prop}{A:Around}{env:Env}{h₀:Heap}{own:Ow}{s s':Shared}
theorem St.MU{ck:Addr}{kx:Str}{cs:Scope}{cl:List (Str×Addr)}{CC DD:Addr}{wr:List Addr}{bX:Heap}{t:Nat}{m:Str->Option Value}{a₂:Shared}(S:St C sc ro env h₀ σ own s)(hkind:cs.kind= .function)(hcell: ∀y∈cs.names,y.2= .cell->y.1=kx)(hkx:cs.names.lookup kx=some .cell)(hnames: ∀y∈cs.names,cs.names.lookup y.1=some y.2)
 (hfree: ∀y∈cs.names,y.2= .free-> ∃f d,σ.get y.1=some (f,d)/\ (sc.names.lookup y.1=some .cell \/sc.names.lookup y.1=some .free))
 (jJ: ∀n c,cl.lookup n=some c->env.cells.lookup n=some c) (rT: ∀n,(n,NameKind.free)∈cs.names->(cl.lookup n).isSome=true)
 (hk: ∀b o,s.heap.get? b=some o->bX.get? b=some o) (fC:s.heap.get? CC=none) (fI: ∀b∈wr,s.heap.get? b=none) (fD:s.heap.get? DD=none) (fK:s.heap.get? ck=none) (hK:bX.IsCell ck none)
 (hC:bX.Ns CC m) (aI: ∀b∈wr,(bX.get? b).isSome=true) (aD:(bX.get? DD).isSome=true):
 St C (fS cs sc) (fT cs) (compEnvC cs ((kx,ck)::cl) CC env) s.heap (cj cs.names σ) ⟨CC::ck::DD::wr,[CC,ck]⟩ {a₂ with heap:=bX,toks:=t}:=by
 have gk:=S.zA hfree
 have rU:(compEnvC cs ((kx,ck)::cl) CC env).scope=fS cs sc:=rS S.scope
 have AO: ∀y,(compEnvC cs ((kx,ck)::cl) CC env).kindOf y=(cs.names.lookup y).map λk=>if(k==NameKind.free&&sc.kind== .function&&sc.names.lookup y==some .cell) then NameKind.cell else k:=λy=>by
  unfold Env.kindOf
  rw[rU]
  exact kD
 have q_: ∀{y:Str},((compEnvC cs ((kx,ck)::cl) CC env).kindOf y=some .cell \/(compEnvC cs ((kx,ck)::cl) CC env).kindOf y=some .free)->(y,NameKind.free)∈cs.names \/y=kx:=λ{y} h=>by
  rw[AO] at h
  exact(tW h).imp id λm=>hcell _ m rfl
 have YU:(kx,NameKind.free)∉cs.names:=λhm=>by
  have:=hnames _ hm
  rw[hkx] at this;cases this
 have YV: ∀{y:Str},(y,NameKind.free)∈cs.names->((kx,ck)::cl).lookup y=cl.lookup y:=λ{y} hm=>by
  rw[ff]
  have:(y==kx)=false:=by
   cases q:(y==kx) with
   |false=>rfl
   |true=>have e:y=kx:=by simpa using q
          exact absurd (e▸hm) YU
  rw[this]
 have lkk:((kx,ck)::cl).lookup kx=some ck:=by rw[ff];simp
 have EX: ∀b∈CC::ck::DD::wr,s.heap.get? b=none:=λb hb=>by
  rcases aB.mp hb with rfl|hb
  · exact fC
  · rcases aB.mp hb with rfl|hb
    · exact fK
    · rcases aB.mp hb with rfl|hb
      · exact fD
      · exact fI _ hb
 exact{
  scope:=rU
  kind:=hkind
  glob:=S.glob
  blt:=S.blt
  base:=S.B
  keep:=hk
  fresh:=EX
  alive:=λb hb=>by
   rcases aB.mp hb with rfl|hb
   · obtain⟨_,_,_,q,_⟩:=hC
     show(bX.get? _).isSome=true
     rw[q];rfl
   · rcases aB.mp hb with rfl|hb
     · obtain⟨o,q,_⟩:=hK
       show(bX.get? _).isSome=true
       rw[q];rfl
     · rcases aB.mp hb with rfl|hb
       · exact aD
       · exact aI _ hb
  ns:=⟨m,hC⟩
  eN:=.head _
  sub:=λb hb=>by
   rcases aB.mp hb with rfl|hb
   · exact .head _
   · rw[ay.mp hb];exact .tail _ (.head _)
  cells:=λx hx hr=>by
   rcases q_ (.inl hx) with h|rfl
   · exact absurd (mY.mpr h) hr
   · exact⟨ck,none,lkk,hK,.tail _ (.head _)⟩
  gb:=λx y c hx hr hy N9 hcy=>by
   rcases q_ (.inl hx) with h|rfl
   · exact absurd (mY.mpr h) hr
   · rcases q_ hy with h|rfl
     · rw[show(compEnvC cs ((x,ck)::cl) CC env).cells.lookup x=some ck from lkk] at N9
       injection N9 with N9;subst N9
       rw[show(compEnvC cs ((x,ck)::cl) CC env).cells.lookup y=cl.lookup y from YV h] at hcy
       obtain⟨c',v,e,⟨o,ho,_⟩,_⟩:=gk _ h rfl
       have:=jJ y _ hcy
       rw[this] at e;injection e with e;subst e
       rw[fK] at ho;cases ho
     · rfl
  free:=λx hx=>by
   rcases q_ (.inr hx) with h|rfl
   · exact mY.mpr h
   · simp only[AO,hkx] at hx
     simp only[pM] at hx
     exact absurd hx (by simp)
  pe:=λx c hx hc=>by
   obtain⟨c',v,e,⟨o,ho,_⟩,_⟩:=gk _ (mY.mp hx) rfl
   rw[show(compEnvC cs ((kx,ck)::cl) CC env).cells.lookup x=cl.lookup x from YV (mY.mp hx)] at hc
   have:=jJ x c hc
   rw[this] at e;injection e with e;subst e
   rw[ho];rfl
  vars:=λx f d e=>by
   refine bk λG hG=>?_
   obtain⟨rfl,hm,f',hg⟩:=kC e
   obtain⟨c,v,ec,ic,wF,hr⟩:=gk _ hm rfl
   refine hG ?_;clear hG G
   have wH:=hnames _ hm
   have hq:cl.lookup x=some c:=by
    obtain⟨c',qq⟩:=c_.mp (rT x hm)
    have:=jJ x c' qq
    rw[ec] at this;injection this with this;subst this;exact qq
   exact⟨v,.inr ⟨by rw[AO];exact S.wG wH wF,c,(YV hm).trans hq,br ic λo q=>hk _ o q⟩,slot_of (hr _ _ hg) EX hk⟩
  inj:=λx y dx dy b e1=>by
   obtain⟨h,_⟩:=kC e1
   cases h}
end
section
variable{C:Cx}{sc:Scope}{ro:List Str}{k:Nat}{σ:Sg}{P:Sg->Fl->Prop}{A:Around}{env:Env}{h₀:Heap}{own:Ow}{s s':Shared}
theorem sL{M:Model}{E:Value->Shared->Prop}{cs:Scope}{kx:Str}{globals:Addr}{cl:List (Str×Addr)}{qual:Str}{code:Value}{env:Env}{Q:Env->Shared->Prop}(hcf: ∀n acc,cellsFrom n cs.names acc=(kx,n)::acc)(EJ: ∀h,pushCells h cs.names=h.push {cls:=.type "cell",data:=.cell none})
 (h:Q {scope:=cs,locals:=s.heap.objs.size,globals:=globals,cells:=(kx,s.heap.objs.size+1)::cl,qual:=qual,func:=none,code:=env.code,frame:=env.frame,builtins:=env.builtins} {s with heap:=(s.heap.push {cls:=.type "dict",data:=.dict #[]}).push {cls:=.type "cell",data:=.cell none}}):
 wpAny M A (newFunctionEnv cs globals cl [] qual none code (some env)) Q E s:=by
 simp only[newFunctionEnv,Option.isSome_some,if_true]
 refine ao (wpAny_alloc ?_)
 refine ao (wpAny_layCells _ (λname kind cells=>by cases hkc:kind==NameKind.cell<;>simp[hkc]) _ _ _ _ ?_)
 rw[hcf,EJ]
 rw[Heap.size_push]
 rw[List.forIn_nil]
 exact ao (aJ (aJ h))
theorem yN{kx:Str}{elt target iter:Expr}{ifs:List Expr}{cs:Scope}{pos:Pos}{items:List D}(g:D->Option D)(upd:Sg->D->Sg){use:Option (Value->Sem Unit)}{Q:Value->Shared->Prop}
 (r:bH A k) (S:St C sc ro env h₀ σ own s)
 (hit:aN C sc ro k σ iter items) (hsz:items.length<=sizeLine) (hkind:cs.kind= .function) (hcell: ∀y∈cs.names,y.2= .cell->y.1=kx) (hkx:cs.names.lookup kx=some .cell) (hcf: ∀n acc,cellsFrom n cs.names acc=(kx,n)::acc) (EJ: ∀h,pushCells h cs.names=h.push {cls:=.type "cell",data:=.cell none}) (hnames: ∀y∈cs.names,cs.names.lookup y.1=some y.2)
 (hfree: ∀y∈cs.names,y.2= .free-> ∃f d,σ.get y.1=some (f,d)/\ (sc.names.lookup y.1=some .cell \/sc.names.lookup y.1=some .free))
 (kr: ∀(A:Around) (ji:Env) (h₀:Heap) (own:Ow) (s:Shared) (aq:Sg) (d:D) (v:Value) (Q:Unit->Shared->Prop),bH A k->St C (fS cs sc) (fT cs) ji h₀ aq own s->d∈items->Rep C.wc s.heap (λ_=>True) v d->
   (∀s',aO own.mu s s'->St C (fS cs sc) (fT cs) ji h₀ (upd aq d) own s'->Q () s')->wpAny (model C.prog C.w) A (PySem.assign target ji v) Q (λ_ _=>False) s)
 (ku: ∀d∈items,iZ target d)
 (pS: ∀d∈items,∀d'∈items,upd (upd (cj cs.names σ) d) d'=upd (cj cs.names σ) d')
 (helt: ∀d∈items,jn C (fS cs sc) (fT cs) k (upd (cj cs.names σ) d) ifs elt (g d))
 (hs: ∀env x,foldedSetIterable iter env x=pure x)
 (q: ∀D Cl ah m,cG s ah->s.heap.get? D=none->s.heap.get? Cl=none->D≠Cl->ah.heap.Ns Cl m->Rep C.wc ah.heap (λb=>s.heap.get? b=none/\ b≠Cl) (.ref D) (.list (items.filterMap g))->
   compPost (model C.prog C.w) A (λ_ _=>False) use Q (.ref D) Cl (.ok .next) ah):
 wpAny (model C.prog C.w) A (comprehension (.ListComp elt [⟨target,iter,ifs,0⟩] cs pos) cs env (firstIterPos [⟨target,iter,ifs,0⟩] pos) (newList []) (firstAsync [⟨target,iter,ifs,0⟩]) (firstIter [⟨target,iter,ifs,0⟩] env) use) Q (λ_ _=>False) s:=by
 have gk: ∀y∈cs.names,y.2= .free-> ∃c,env.cells.lookup y.1=some c:=λy hy La=>(S.zA hfree y hy La).imp λ_ h=>h.elim λ_ h=>h.1
 obtain⟨cl,Cd,jJ,rT⟩:=kQ (cs:=cs) (env:=env) gk
 refine wpAny_comprehension_free (cl:=cl) rfl (hs env) Cd hkind (λy hy hl=>hl▸hnames y hy) (hit A env h₀ own s _ r S λI gn aE Ft J a₂ nK IT hJ BU=>?_)
 refine wpAny_newObj_type (sL hcf EJ ?_)
 dsimp only
 generalize HX:aE.heap.push {cls:=.type "list",dict:=none,data:=.seq ([]:List Value).toArray}=H2
 have tG:H2.objs.size=aE.heap.objs.size+1:=by rw[<-HX,Heap.size_push]
 have tE:aE.heap.objs.size≠H2.objs.size:=by rw[tG];exact fj (Nat.lt_succ_self _)
 obtain⟨bX,xw⟩: ∃bX,bX=(H2.push {cls:=.type "dict",data:=.dict #[]}).push {cls:=.type "cell",data:=.cell none}:=⟨_,rfl⟩
 rw[<-xw]
 have Jd: ∀b o,H2.get? b=some o->bX.get? b=some o:=λb o e=>by rw[xw];exact dh _ (dh _ e)
 have old: ∀b o,aE.heap.get? b=some o->bX.get? b=some o:=λb o e=>Jd b o (HX▸dh _ e)
 have m_:bX.Ns H2.objs.size (λ_=>none):=by
  rw[xw]
  exact(Heap.Ns.new H2 (.type "dict")).keeps λb o e=>dh _ e
 have Hl:bX.IsCell (H2.objs.size+1) none:=by
  rw[xw]
  have e:(H2.push {cls:=.type "dict",data:=.dict #[]}).objs.size=H2.objs.size+1:=Heap.size_push ..
  rw[<-e]
  exact⟨{cls:=.type "cell",data:=.cell none},cV _ rfl,rfl⟩
 have E1:aE.heap.get? aE.heap.objs.size=none:=bg _
 have E2:aE.heap.get? H2.objs.size=none:=by
  cases e:aE.heap.get? H2.objs.size with
  |none=>rfl
  |some o=>
   have h3:=fY e
   rw[tG] at h3
   exact absurd (Nat.lt_of_succ_lt h3) (Nat.lt_irrefl _)
 have FU:aE.heap.get? (H2.objs.size+1)=none:=by
  cases e:aE.heap.get? (H2.objs.size+1) with
  |none=>rfl
  |some o=>
   have h3:=fY e
   rw[tG] at h3
   have h4:aE.heap.objs.size+1+1<aE.heap.objs.size:=h3
   exact absurd (Nat.lt_of_succ_lt (Nat.lt_of_succ_lt h4)) (Nat.lt_irrefl _)
 have hwK:H2.objs.size+1∉gn:=λe=>by have:=(nK _ e).2;rw[FU] at this;cases this
 have YW:aE.heap.objs.size≠H2.objs.size+1:=by rw[tG];exact PK
 have hCK:H2.objs.size≠H2.objs.size+1:=O5
 have Ll:aE.heap.objs.size∉gn:=λe=>by have:=(nK _ e).2;rw[E1] at this;cases this
 have Lm:H2.objs.size∉gn:=λe=>by have:=(nK _ e).2;rw[E2] at this;cases this
 have uX:PlainL bX aE.heap.objs.size #[]:=⟨_,_,Jd _ _ (HX▸cV _ rfl),rfl,rfl,rfl⟩
 clear tG Jd xw
 generalize H2.objs.size+1=ck at Hl FU hwK YW hCK ⊢
 generalize aE.heap.objs.size=DD at tE E1 Ll YW uX ⊢
 generalize H2.objs.size=CC at m_ tE E2 Lm hCK ⊢
 have hsK:s.heap.get? ck=none:=a₂.none FU
 have EY:s.heap.get? DD=none:=a₂.none E1
 have HU:s.heap.get? CC=none:=a₂.none E2
 have aI: ∀b∈gn,(bX.get? b).isSome=true:=λb hb=>by
  obtain⟨o,ho⟩:=c_.mp (nK b hb).2
  rw[old _ _ ho];rfl
 have aD:(bX.get? DD).isSome=true:=by obtain⟨o,_,ho,_⟩:=uX;rw[ho];rfl
 let aV:Shared:={aE with heap:=bX}
 have cL:cG aE aV:=⟨λb o _ e=>old b o e,rfl,bF.rfl'⟩
 have dX:St C (fS cs sc) (fT cs) (compEnvC cs ((kx,ck)::cl) CC env) s.heap (cj cs.names σ) ⟨CC::ck::DD::gn,[CC,ck]⟩ aV:=
  S.MU (t:=aE.toks) (a₂:=aE) hkind hcell hkx hnames hfree jJ rT (λb o e=>old b o (a₂.get e)) HU (λb hb=>(nK b hb).1) EY hsK Hl m_ aI aD
 have JD: ∀b,aE.heap.get? b=none-> ¬Ft b:=λb hb f=>by have:=(BU b f).2;rw[hb] at this;cases this
 have AP:J gn items aV:=IT.frame gn items aE aV [] hJ cL λb hb=>nomatch hb
 exact tX (A:=A) (env:=env) (s:=s) g upd r IT hsz kr ku pS helt q dX AP (.head _) (.tail _ (.tail _ (.head _))) (λb hb=>⟨.tail _ (.tail _ (.tail _ hb)),λe=>(aB.mp e).elim (λq=>Lm (q▸hb)) λq=>hwK (ay.mp q▸hb),λe=>Ll (e▸hb)⟩)
  (λm=>(aB.mp m).elim tE λq=>YW (ay.mp q)) (λb hb=>(aB.mp hb).elim (λe=>e▸JD _ E2) λe=>ay.mp e▸JD _ FU) (JD _ E1)
  (aO.toN (aO.trans a₂ cL λz hz=>nomatch hz) (aR _)) uX EY HU tE
end
section
variable{C:Cx}{sc:Scope}{ro:List Str}{k:Nat}{σ:Sg}{P:Sg->Fl->Prop}{A:Around}{env:Env}{h₀:Heap}{own:Ow}{s s' bD:Shared}
structure oN(kx:Str)(C:Cx)(sc:Scope)(ro:List Str)(k:Nat)(σ:Sg)(elt target iter:Expr)(ifs:List Expr)(cs:Scope)(items:List D)(g:D->Option D)(upd:Sg->D->Sg):Prop where
 hit:aN C sc ro k σ iter items
 hsz:items.length<=sizeLine
 hkind:cs.kind= .function
 hcell: ∀y∈cs.names,y.2= .cell->y.1=kx
 hkx:cs.names.lookup kx=some .cell
 hcf: ∀n acc,cellsFrom n cs.names acc=(kx,n)::acc
 EJ: ∀h,pushCells h cs.names=h.push {cls:=.type "cell",data:=.cell none}
 hnames: ∀y∈cs.names,cs.names.lookup y.1=some y.2
 hfree: ∀y∈cs.names,y.2= .free-> ∃f d,σ.get y.1=some (f,d)/\ (sc.names.lookup y.1=some .cell \/sc.names.lookup y.1=some .free)
 kr: ∀(A:Around) (ji:Env) (h₀:Heap) (own:Ow) (s:Shared) (aq:Sg) (d:D) (v:Value) (Q:Unit->Shared->Prop),bH A k->St C (fS cs sc) (fT cs) ji h₀ aq own s->d∈items->Rep C.wc s.heap (λ_=>True) v d->
  (∀s',aO own.mu s s'->St C (fS cs sc) (fT cs) ji h₀ (upd aq d) own s'->Q () s')->wpAny (model C.prog C.w) A (PySem.assign target ji v) Q (λ_ _=>False) s
 ku: ∀d∈items,iZ target d
 pS: ∀d∈items,∀d'∈items,upd (upd (cj cs.names σ) d) d'=upd (cj cs.names σ) d'
 helt: ∀d∈items,jn C (fS cs sc) (fT cs) k (upd (cj cs.names σ) d) ifs elt (g d)
 hs: ∀env x,foldedSetIterable iter env x=pure x
section
variable{elt target iter:Expr}{ifs:List Expr}{cs:Scope}{pos:Pos}{items:List D}{g:D->Option D}{upd:Sg->D->Sg}
theorem cH.xx{kx:Str}{x:Str}{px oi:Pos}(f:Bool)(c:oN kx C sc ro k σ elt target iter ifs cs items g upd)(hx:Bound sc ro x)(hp:P (σ.set x f (.list (items.filterMap g))) .next)
 (hs: ∀env,env.scope=sc->swapsWith (.ListComp elt [⟨target,iter,ifs,0⟩] cs pos) (some (.Name x px)) oi.line env=pure true:=by intro env h;cases env;cases h;rfl):
 cH C sc ro k σ (.Assign [.Name x px] (.ListComp elt [⟨target,iter,ifs,0⟩] cs pos) oi) P:=by
 intro A env h₀ own s Q r S q
 rw[exec_Assign_Name_used _ _ _ _ (hs env S.scope)]
 refine ao (fM (ao ?_))
 rw[arm_evalThenUse_ListComp]
 refine ao (aT (yN (Q:=λ_ s'=>Q .next s') g upd r S c.hit c.hsz c.hkind c.hcell c.hkx c.hcf c.EJ c.hnames c.hfree c.kr c.ku c.pS c.helt c.hs λD Cl ah m az hD hC tE mT rp=>?_) (λ_ s' hq=>aJ (aJ hq)) λ_ _ e=>e)
 exact wI f S hx hp q az hD hC tE mT rp
end
theorem oN.name{elt iter:Expr}{ifs:List Expr}{cs:Scope}{x:Str}{px:Pos}{items:List D}{g:D->Option D}(hit:aN C sc ro k σ iter items)(hd: ∀d∈items,d.sc=true)
 (hfree:nc σ sc cs.names) (helt: ∀d∈items,jn C (fS cs sc) (fT cs) k ((cj cs.names σ).set x false d) ifs elt (g d))
 (hsz:items.length<=sizeLine) (hkind:cs.kind= .function) (hcell: ∀y∈cs.names,y.2= .cell->y.1=x) (hkx:cs.names.lookup x=some .cell) (hcf: ∀n acc,cellsFrom n cs.names acc=(x,n)::acc) (EJ: ∀h,pushCells h cs.names=h.push {cls:=.type "cell",data:=.cell none})
 (hnames: ∀y∈cs.names,cs.names.lookup y.1=some y.2) (MB:x∉fT cs) (YX:(fS cs sc).names.lookup x=some .cell) (hs: ∀env x,foldedSetIterable iter env x=pure x:=by intro _ _;rfl):
 oN x C sc ro k σ elt (.Name x px) iter ifs cs items g (λσ d=>σ.set x false d) where
 hit:=hit
 hsz:=hsz
 hkind:=hkind
 hcell:=hcell
 hkx:=hkx
 hcf:=hcf
 EJ:=EJ
 hnames:=hnames
 hfree:=hfree.all
 kr:=λA ji h₀ own s aq d v Q r S qt rp q=>fL (S.store (f:=false) (d:=d) (rp.dH (hd d qt)) (.inr YX) MB (λh=>nomatch h) λs' a _ S'=>q s' a S')
 ku:=λd qt=>iZ.name (hd d qt)
 pS:=λd _ d' _=>Sg.set_set x false false d d' _
 helt:=helt
 hs:=hs
end
end Mine
end
section
open PySem PySem.W PyProof.Rows PySem.Challenge
namespace Mine
theorem qR.cells{C:Cx}{T:jL}{k:Nat}{a c:Addr}{name:Str}{params:Arguments}{body:List Stmt}{scope:Scope}{ds:List D}{d:D}(hf:oH C a name params body scope c)
 (hb: ∀pm cd doc (vs:List Value),vs.length=ds.length->bindArgs (Calls.docDef name params body scope pm cd doc) ⟨vs,[]⟩=pure ((params.args.map (·.arg)).zip vs))
 (hl:(params.args.map (·.arg)).length=ds.length) (qp:(params.args.map (·.arg)).Nodup)
 (iL: ∀x∈params.args.map (·.arg),scope.names.lookup x=some .local \/scope.names.lookup x=some .cell) (hfree: ∀x∈scope.names,x.2≠.free)
 (hd2:d.sc=true) (d_:bq C T scope [] k (gZ (params.args.map (·.arg)) ds) (execs body) λ_ fl=>fl= .ret d)
 (hk:autoParam (scope.kind= .function) au) (rO:autoParam (scope.isCoroutine=false) au) (jN:autoParam (scope.isGenerator=false) au):qR C T (k+1) (.ref a) ds d:=by
 intro A s vs hb₀ F Q r B dP eU ht gK q
 refine yL (T:=T) (hb₀:=hb₀) (F:=F) hf r B dP eU ht gK hb hl qp iL hfree (λA' env al ah r' oG zS S az dead=>?_) hk rO jN
 obtain⟨p1,p2,Ms,Mt⟩:=ht.P1
 have Gs: ∀b∈T.Ps,(s.heap.get? b).isSome=true:=λb hb=>by
  rcases aB.mp hb with rfl|hb
  · exact Ms
  · rw[ay.mp hb];exact Mt
 refine d_ _ env _ _ _ (λb=>F b \/s.heap.get? b=none) _ r' S (λb hb=>b_ _ hb) (λb hb _=>?_) (ht.keep (λb o _ e=>az.get e) λb hb al=>⟨λm=>?_,.inl hb⟩) λf fl s' aq own' av o1 o2 S' t' fi p=>?_
 · by_cases hp:b∈T.Ps
   · rcases aB.mp hp with rfl|hp
     · exact .inl p1
     · rw[ay.mp hp];exact .inl p2
   · refine .inr ?_
     cases z:s.heap.get? b with
     |none=>rfl
     |some o=>rw[hideAll_get _ z hp] at hb;cases hb
 · rw[dead b m] at al;cases al
 · subst p
   obtain⟨v,rfl,rp⟩:=fi
   exact q v s' ⟨λb o hb e=>S'.keep b o (hideAll_get _ e hb),av.os.trans az.os,az.gens.trans av.gens⟩ (t'.keep (λb o _ e=>e) λb hb _=>hb.2) (rp.dH hd2)
theorem oO{α β:Type}(f:α->β)(l:List α)(lo hi st:Option Int):pick (l.map f) lo hi st=(pick l lo hi st).map f:=by
 unfold pick
 rw[aM,List.map_filterMap]
 congr 1
 funext i
 rw[cM]
noncomputable abbrev vK(n:Nat):List Stmt:=(fBody (bW 79)).drop n
noncomputable abbrev jF:Scope:=fScope (bW 79)
section
variable{C:Cx}{T:jL}{sc:Scope}{ro:List Str}{k:Nat}{σ:Sg}{P:Sg->Fl->Prop}
theorem bq.push{x:Str}{px apos iM pos:Pos}{e:Expr}{rest:List Stmt}{ds:List D}{d:D}{md:Md}(hx:σ.get x=some (true,.list ds))(he:Ev C sc ro k σ e md d)(hm:d.sc=true \/md= .clean \/md= .fresh)(hsz:ds.length<sizeLine)
 (hr:bq C T sc ro k (σ.set x true (.list (ds++[d]))) (execs rest) P)
 (cJ:autoParam (∀env,attributeBase (.Name x px) "append" env (eval (.Name x px) env)=eval (.Name x px) env) au)
 (rP:autoParam (∀env,((backTo iM (starEach [e] env)).all (λx=>!x.1)&&(backToKw iM (keywordEach [] env)).all (λx=>x.1.isSome)&&decide (([e]:List Expr).length+([]:List Keyword).length+(if([]:List Keyword).isEmpty then 0 else 1)<30))=true) au)
 (aF:autoParam ((apos.endLine==iM.line)=true) au) (rQ:autoParam (∀env,backTo iM (starEach [e] env)=[(false,eval e env)]) au) (vZ:autoParam ((x==("__debug__" :Str))=false) au):
 bq C T sc ro k σ (execs (.Expr (.Call (.Attribute (.Name x px) "append" apos) [e] [] iM) pos::rest)) P:=
 bq.ex (R:=λaq=>aq=σ.set x true (.list (ds++[d]))) (cH.append hx he hm hsz (.inl ⟨rfl,rfl⟩) cJ rP aF rQ vZ) λaq e=>e▸hr
theorem bq.gv{elt target iter:Expr}{ifs:List Expr}{cs:Scope}{pos:Pos}{items:List D}{g:D->Option D}{upd:Sg->D->Sg}{x:Str}{px oi:Pos}{rest:List Stmt}(f:Bool)(c:cC C sc ro k σ elt target iter ifs cs items g upd)(hx:Bound sc ro x)
 (hr:bq C T sc ro k (σ.set x f (.list (items.filterMap g))) (execs rest) P)
 (hs: ∀env,env.scope=sc->swapsWith (.ListComp elt [⟨target,iter,ifs,0⟩] cs pos) (some (.Name x px)) oi.line env=pure true:=by intro env h;cases env;cases h;rfl):
 bq C T sc ro k σ (execs (.Assign [.Name x px] (.ListComp elt [⟨target,iter,ifs,0⟩] cs pos) oi::rest)) P:=
 bq.ex (R:=λaq=>aq=σ.set x f (.list (items.filterMap g))) (cH.rW f c hx (.inl ⟨rfl,rfl⟩) hs) λaq e=>e▸hr
theorem bq.Ds{kx:Str}{elt target iter:Expr}{ifs:List Expr}{cs:Scope}{pos:Pos}{items:List D}{g:D->Option D}{upd:Sg->D->Sg}{x:Str}{px oi:Pos}{rest:List Stmt}(f:Bool)(c:oN kx C sc ro k σ elt target iter ifs cs items g upd)(hx:Bound sc ro x)
 (hr:bq C T sc ro k (σ.set x f (.list (items.filterMap g))) (execs rest) P)
 (hs: ∀env,env.scope=sc->swapsWith (.ListComp elt [⟨target,iter,ifs,0⟩] cs pos) (some (.Name x px)) oi.line env=pure true:=by intro env h;cases env;cases h;rfl):
 bq C T sc ro k σ (execs (.Assign [.Name x px] (.ListComp elt [⟨target,iter,ifs,0⟩] cs pos) oi::rest)) P:=
 bq.ex (R:=λaq=>aq=σ.set x f (.list (items.filterMap g))) (cH.xx f c hx (.inl ⟨rfl,rfl⟩) hs) λaq e=>e▸hr
theorem bq.pairE{x y:Str}{px py tp pos:Pos}{kk:Nat}{e:Expr}{rest:List Stmt}{d₁ d₂:D}{g:Bool}(h:dj C sc ro k σ e d₁ g d₂)(hx:Bound sc ro x)(hy:Bound sc ro y)(hr:bq C T sc ro k ((σ.set x false d₁).set y g d₂) (execs rest) P)
 (hs: ∀env,env.scope=sc->swapsWithSole [.Tuple [.Name x px,.Name y py] kk tp] e pos.line env=pure false:=by intro env h;cases env;cases h;rfl)
 (hw: ∀env,env.scope=sc->swappedStores [.Tuple [.Name x px,.Name y py] kk tp] e env=pure none:=by intro env h;cases env;cases h;rfl):bq C T sc ro k σ (execs (.Assign [.Tuple [.Name x px,.Name y py] kk tp] e pos::rest)) P:=
 bq.ex (R:=λaq=>aq=(σ.set x false d₁).set y g d₂) (cH.pair h hx hy (.inl ⟨rfl,rfl⟩) hs hw) λaq e=>e▸hr
theorem bq.YY{t:Expr}{body orelse rest:List Stmt}{pos:Pos}{b:Bool}(R:Sg->Prop)(ht:Te C sc ro k σ t b)(h1:b=true->Ex C sc ro k σ body (After R P))(h2:b=false->Ex C sc ro k σ orelse (After R P))(hn: ∀aq,R aq->bq C T sc ro k aq (execs rest) P):bq C T sc ro k σ (execs (.If t body orelse pos::rest)) P:=
 bq.ite R ht (λh=>kM.toI (h1 h)) (λh=>kM.toI (h2 h)) hn
theorem bq.pass{t:Expr}{body rest:List Stmt}{pos:Pos}(ht:Te C sc ro k σ t false)(hn:bq C T sc ro k σ (execs rest) P):bq C T sc ro k σ (execs (.If t body [] pos::rest)) P:=
 bq.YY (λaq=>aq=σ) ht (λh=>nomatch h) (λ_=>Ex.nil (.inl ⟨rfl,rfl⟩)) λaq e=>e▸hn
end
noncomputable def qe(side x place:Int)(st:Int×List Int):Int×List Int:=
 ((k_ (side*(st.1+x.fdiv 2)) (side*(x-place))).1,st.2++[side*(k_ (side*(st.1+x.fdiv 2)) (side*(x-place))).2-x.fdiv 2])
noncomputable def eK(side x place weight:Int):Nat->Int×List Int
 |0=>(weight,[])
 |n+1=>qe side x place (eK side x place weight n)
noncomputable def kY(side x place weight:Int):List Int:=(eK side x place weight 6).2++[(eK side x place weight 6).1]
noncomputable def aaE(l:List Int)(m:Int):Int:=l.foldl min m
noncomputable def MV(row:List Int):List Int:=((List.range 7).filter λk=>row.getD k 0 !=0).map Int.ofNat
noncomputable def gD(row:List Int):List Bool:=(row.filter λv=>v !=0).map λv=>decide (256<=255+v)
noncomputable def ju(ups:List Bool):Nat:=((List.range (ups.length-1)).filter λi=>!(ups.getD (1+i) false==ups.getD (1+i-1) false)).length
structure JN(nums due:List Int)(weight side x p:Int)(at':Int):Prop where
 rest:(eK side x p weight 6).1=1
 sum:((List.range 7).map λ(k:Nat)=>(kY side x p weight).getD k 0*(x-p) ^k).sum=weight
 atm:at'∈MV (kY side x p weight)
 YZ: ∀a∈MV (kY side x p weight),at'<=a
 N_:ir due nums p=[6-at'-ju (gD (kY side x p weight)),at',ju (gD (kY side x p weight))]
 bits: ∀j,j<6->Bt 90000 (eK side x p weight j).1
 Y0: ∀v∈kY side x p weight,Bt 5000 v
 pb:Bt 10 p
 ne:x-p≠0
noncomputable def yO(nums due:List Int)(weight side x:Int):Sg:=[("told",false,DL nums),("over",false,DL due),("weight",false,.int weight),("side",false,.int side),("x",false,.int x)]
theorem qf(side x p w:Int): ∀n,(eK side x p w n).2.length=n
 |0=>rfl
 |n+1=>by show((eK side x p w n).2++[_]).length=_;simp only[cF,qf side x p w n];rfl
structure zT(C:Cx)(T:jL)(k:Nat)(fI fE fN fP:Addr):Prop where
 k_: ∀a b:Int,Bt 100000 a->b≠0->Bt 4000 b->qR C T k (.ref fI) [.int a,.int b] (.tup [.int (Mine.k_ a b).1,.int (Mine.k_ a b).2])
 gI:i_ C "int_divmod" (.ref fI)
 kI:aA C (.ref fI)
 eof: ∀v:Int,Fn C k (.ref fE) [.int v] (.bool (v==0))
 gE:i_ C "ISEOF" (.ref fE)
 kE:aA C (.ref fE)
 mz: ∀v:Int,Fn C k (.ref fN) [.int v] (.bool (decide (256<=v)))
 gN:i_ C "ISNONTERMINAL" (.ref fN)
 kN:aA C (.ref fN)
 N_: ∀(over numbers:List Int) (place:Int),over.length=numbers.length->numbers.length=6->(∀j,j<6->dB (over.getD j 0) 6<6/\ dB (over.getD j 0) 6≠j/\ (over.getD j 0=dB (over.getD j 0) 6 \/over.getD j 0=(dB (over.getD j 0) 6:Int)-6))->Bt 10 place->(∀j,Bt 10 (numbers.getD j 0))->
  Fn C k (.ref fP) [DL over,DL numbers,.int place] (DL (ir over numbers place))
 gP:i_ C "_law_pivots" (.ref fP)
 kP:aA C (.ref fP)
 vq:bT C "range" (.type "range")
 sum:bT C "sum" (.builtin "sum")
 min:bT C "min" (.builtin "min")
 len:bT C "len" (.builtin "len")
noncomputable def Bx(nums due:List Int)(weight side x p:Int)(st:Int×List Int):Sg:=[("told",false,DL nums),("over",false,DL due),("weight",false,.int weight),("side",false,.int side),("x",false,.int x),("place",false,.int p),("rest",false,.int st.1),("row",true,DL st.2)]
noncomputable abbrev xy(i:Nat):List Stmt:=(fBody (fy 79 27)).drop i
noncomputable def Y3:Expr:=(H9 ((H9 ((H9 (Cs ((fBody ((xy 1).getD 0 (.Pass default))).getD 0 (.Pass default)))).getD 1 default)).getD 1 default)).getD 1 default
section
variable{C:Cx}{T:jL}{k:Nat}{fI fE fN fP:Addr}{σ:Sg}
theorem FY{x:Int}{n:Nat}(h:Bt n x):Bt n (x.fdiv 2):=intBits_fdiv_le h
theorem Je(X:zT C T k fI fE fN fP){nums due:List Int}{weight side x p:Int}{P:Sg->Fl->Prop}(hs:side=1 \/side= -1)(hx:Bt 800 x)(hb: ∀j,j<6->Bt 90000 (eK side x p weight j).1)(hp:Bt 10 p)(iO:x-p≠0)
 (hn: ∀aq,Le (Bx nums due weight side x p (eK side x p weight 6)) aq->bq C T jF [] k aq (execs (xy 2)) P)
 (h0:Sub (Bx nums due weight side x p (weight,[])) σ):bq C T jF [] k σ (execs (xy 1)) P:=by
 have aF:sizeLine=16777216:=rfl
 refine bq.jV (items:=List.range 6) (λ(i:Nat)=>D.int i) (λdone=>Bx nums due weight side x p (eK side x p weight done.length)) (λ_=>True) (Le (Bx nums due weight side x p (eK side x p weight 6))) (aN.call (ds:=[.int 6]) (aK.blt rfl X.vq) (Ar.cons Ev.aG Ar.nil) aA.typ (ee.jo (b:=6) (by decide) (by decide))) (λ_ _=>rfl) ⟨.inl rfl,ai⟩ h0 trivial ?_ (λ_ aq h=>h) hn
 intro done i left hi _
 have hl:done.length<6:=by
  have:=congrArg List.length hi
  simp at this;exact QA this
 have hbr:=hb done.length hl
 have JO:=qf side x p weight done.length
 rw[cF]
 show bq C T jF [] k _ _ (λaq fl=>(fl= .next/\ True/\ Sub (Bx nums due weight side x p (qe side x p (eK side x p weight done.length))) aq) \/_)
 unfold qe
 generalize eK side x p weight done.length=st at*
 obtain⟨rs,row⟩:=st
 dsimp only at hbr JO ⊢
 have Dt:Builtin.Int.intBits side<=64:=by rcases hs with rfl|rfl<;>decide
 have Du:Bt 1 side:=by rcases hs with rfl|rfl<;>decide
 have hb1:Bt 90003 (rs+x.fdiv 2):=(Bt.add hbr (FY hx)).up (RG)
 have MR:Bt 803 (x-p):=(Bt.sub hx hp).up (Z_)
 have hd:=X.k_ (side*(rs+x.fdiv 2)) (side*(x-p)) ((Bt.mul Du hb1).up (PU)) (by rcases hs with rfl|rfl<;>lia) ((Bt.mul Du MR).up (O7))
 generalize k_ (side*(rs+x.fdiv 2)) (side*(x-p))=qr at*
 have e2:Ev C jF [] k ((Bx nums due weight side x p (rs,row)).set "k" false (.int i)) Y3 .any (.int (x.fdiv 2)):=
  Ev.bin (Ev.o (.int x) rfl) Ev.aG (ak.fdiv (by decide) (iX (by decide)))|>.up (.inl rfl)
 refine bq.pair (lJ.call (ds:=[.int (side*(rs+x.fdiv 2)),.int (side*(x-p))]) (aK.glob rfl X.gI) (Ar.cons (Ev.bin (Ev.o (.int side) rfl) (Ev.bin (Ev.o (.int rs) rfl) e2 ak.add|>.up (.inl rfl)) (ak.mul (lg Dt))|>.up (.inl rfl))
  (Ar.cons (Ev.bin (Ev.o (.int side) rfl) (Ev.bin (Ev.o (.int x) rfl) (Ev.o (.int p) rfl) ak.sub|>.up (.inl rfl)) (ak.mul (lg Dt))|>.up (.inl rfl)) Ar.nil)) X.kI hd) rfl rfl ⟨.inl rfl,ai⟩ ⟨.inl rfl,ai⟩ ?_
 refine bq.push (x:="row") (ds:=row.map D.int) (md:=.fresh) (d:=.int (side*qr.2-x.fdiv 2)) rfl (Ev.bin (Ev.bin (Ev.o (.int side) rfl) (Ev.o (.int qr.2) rfl) (ak.mul (lg Dt))|>.up (.inl rfl)) (Ev.bin (Ev.o (.int x) rfl) Ev.aG (ak.fdiv (by decide) (iX (by decide)))|>.up (.inl rfl)) ak.sub) (.inl rfl) (by rw[aM];exact TZ hl aF JO) (bq.nil (.inl ⟨rfl,trivial,?_⟩))
 refine⟨rfl,rfl,rfl,rfl,rfl,rfl,rfl,?_,trivial⟩
 show some (true,D.list (row.map D.int++[D.int (side*qr.2-x.fdiv 2)]))=some (true,DL (row++[side*qr.2-x.fdiv 2]))
 show _=some (true,D.list ((row++[side*qr.2-x.fdiv 2]).map D.int))
 rw[dN];rfl
end
theorem Bt.pow{m:Nat}{a:Int}(h:Bt m a): ∀n:Nat,Bt (m*n+1) (a ^n)
 |0=>by show Builtin.Int.intBits (a ^0)<=m*0+1;simp only[Int.pow_zero,Nat.mul_zero];decide+kernel
 |n+1=>by
  rw[Int.pow_succ]
  exact(Bt.mul (Bt.pow h n) h).up (by rw[Nat.mul_add];exact Th)
noncomputable def yP(nums due:List Int)(weight side x p rs:Int)(R:List Int):Sg:=[("told",false,DL nums),("over",false,DL due),("weight",false,.int weight),("side",false,.int side),("x",false,.int x),("place",false,.int p),("rest",false,.int rs),("row",false,DL R)]
noncomputable def Jf(R:List Int)(x p:Int):D->Option D:=fZ λi=>.int (R.getD i.toNat 0*(x-p) ^i.toNat)
noncomputable def Oa(R:List Int):D->Option D| .int i=>if R.getD i.toNat 0 !=0 then some (.int i) else none|_=>none
noncomputable def Ob:D->Option D| .int v=>if v !=0 then some (.bool (decide (256<=255+v))) else none|_=>none
noncomputable def MW(u:List Bool):D->Option D| .int j=>if !(u.getD j.toNat false==u.getD (j-1).toNat false) then some (.int j) else none|_=>none
theorem Dv(R:List Int)(x p:Int):((List.range 7).map λ(i:Nat)=>D.int i).filterMap (Jf R x p)=((List.range 7).map λ(k:Nat)=>R.getD k 0*(x-p) ^k).map D.int:=by
 have e:((List.range 7).map λ(i:Nat)=>D.int i)=((List.range 7).map λ(i:Nat)=>(i:Int)).map D.int:=by rw[cN];rfl
 rw[e]
 unfold Jf
 simp only[dO,cN,cN]
 rfl
theorem zU(R:List Int): ∀l:List Nat,(l.map λ(i:Nat)=>D.int i).filterMap (Oa R)=((l.filter λk=>R.getD k 0 !=0).map Int.ofNat).map D.int
 |[]=>rfl
 |i::l=>by
  have ih:=zU R l
  rw[bN,gG,ko]
  have e:Oa R (D.int i)=if R.getD i 0 !=0 then some (D.int i) else none:=rfl
  rw[e]
  by_cases h:(R.getD i 0 !=0)=true
  · rw[af h,af h,bN,bN,<-ih];rfl
  · rw[aa h,aa h,<-ih]
theorem zV: ∀l:List Int,(l.map D.int).filterMap Ob=(gD l).map D.bool
 |[]=>rfl
 |v::l=>by
  have ih:=zV l
  unfold gD at ih ⊢
  rw[bN,gG,ko]
  have e:Ob (D.int v)=if v !=0 then some (D.bool (decide (256<=255+v))) else none:=rfl
  rw[e]
  by_cases h:(v !=0)=true
  · rw[af h,af h,bN,bN,<-ih]
  · rw[aa h,aa h,<-ih]
theorem zW(u:List Bool): ∀l:List Nat,((l.map λ(i:Nat)=>D.int (1+i)).filterMap (MW u)).length=(l.filter λi=>!(u.getD (1+i) false==u.getD (1+i-1) false)).length
 |[]=>rfl
 |i::l=>by
  have ih:=zW u l
  rw[bN,gG,ko]
  have e1:(1+(i:Int)).toNat=1+i:=J7
  have e2:(1+(i:Int)-1).toNat=1+i-1:=Kp
  have e:MW u (D.int (1+i))=if !(u.getD (1+i) false==u.getD (1+i-1) false) then some (D.int (1+i)) else none:=by
   show(if !(u.getD (1+(i:Int)).toNat false==u.getD (1+(i:Int)-1).toNat false) then _ else _)=_
   rw[e1,e2]
  rw[e]
  by_cases h:(!(u.getD (1+i) false==u.getD (1+i-1) false))=true
  · rw[af h,af h,eF,eF,<-ih]
  · rw[aa h,aa h,<-ih]
section
variable{C:Cx}{T:jL}{k:Nat}{fI fE fN fP:Addr}{σ:Sg}
theorem zX{l:List Bool}{i:Nat}(h:i<l.length):(l.map D.bool)[i]? =some (.bool (l.getD i false)):=by
 simp only[cM,cE h]
 simp[h]
theorem Te.val{sc:Scope}{ro:List Str}{e:Expr}{b b':Bool}(h:b=b')(x:Te C sc ro k σ e b):Te C sc ro k σ e b':=h▸x
theorem Ev.val{sc:Scope}{ro:List Str}{e:Expr}{md:Md}{d d':D}(h:d=d')(x:Ev C sc ro k σ e md d):Ev C sc ro k σ e md d':=h▸x
theorem FZ(X:zT C T k fI fE fN fP){nums due R:List Int}{weight side x p rs at':Int}{P:Sg->Fl->Prop}(hR:R.length=7)(NR:rs=1)(Y4:((List.range 7).map λ(k:Nat)=>R.getD k 0*(x-p) ^k).sum=weight)(hat:at'∈MV R)(hle: ∀a∈MV R,at'<=a)
 (Oc:ir due nums p=[6-at'-ju (gD R),at',ju (gD R)]) (hx:Bt 800 x) (hp:Bt 10 p) (Yz: ∀v∈R,Bt 5000 v) (MX:nums.length=6) (MY:due.length=6)
 (ID: ∀j,j<6->dB (due.getD j 0) 6<6/\ dB (due.getD j 0) 6≠j/\ (due.getD j 0=dB (due.getD j 0) 6 \/due.getD j 0=(dB (due.getD j 0) 6:Int)-6)) (MZ: ∀j,Bt 10 (nums.getD j 0))
 (hP: ∀aq,Le (yP nums due weight side x p rs R) aq->P aq .next):bq C T jF [] k (yP nums due weight side x p rs R) (execs (xy 3)) P:=by
 have aF:sizeLine=16777216:=rfl
 have MR:Bt 803 (x-p):=(Bt.sub hx hp).up (Z_)
 have lR:(R.map D.int).length=7:=by rw[aM,hR]
 have gR: ∀i:Nat,i<7->aL C k (DL R) (.int i) (.int (R.getD i 0)):=λi hi=>aL.list (bQ (TM hi hR)) (Q0)
 have rI: ∀{σ:Sg} {p1 p2 p3:Pos} {n:Nat},aN C jF [] k σ (.Call (.Name "range" p1) [.Constant (.int 7) n p2] [] p3) ((List.range 7).map λ(i:Nat)=>D.int i):=
  aN.call (ds:=[.int 7]) (aK.blt rfl X.vq) (Ar.cons Ev.aG Ar.nil) aA.typ (ee.jo (b:=7) (by decide) (by decide))
 refine bq.pass ?_ ?_
 · have e1:(rs !=1)=false:=by rw[NR];rfl
   have e2:(((List.range 7).map λ(k:Nat)=>R.getD k 0*(x-p) ^k).sum !=weight)=false:=by rw[Y4];simp
   refine Te.or (b₁:=false) (b₂:=false) (by rw[<-e1];exact Te.cmp (Ev.o (.int rs) rfl) Ev.aG aH.ne) λ_=>?_
   rw[<-e2]
   refine Te.cmp (Ev.call (ds:=[DL ((List.range 7).map λ(k:Nat)=>R.getD k 0*(x-p) ^k)]) (aK.blt rfl X.sum) (Ar.cons ?_ Ar.nil) aA.blt Fn.sum|>.up (.inl rfl)) (Ev.o (.int weight) rfl) aH.ne
   show Ev _ _ _ _ _ _ _ (.list (((List.range 7).map λ(k:Nat)=>R.getD k 0*(x-p) ^k).map D.int))
   rw[<-Dv]
   refine Ev.up (md:=.fresh) (Ev.comp (cC.name (items:=(List.range 7).map λ(i:Nat)=>D.int i) (g:=Jf R x p) rI (λd hd=>by obtain⟨i,_,rfl⟩:=aQ.mp hd;rfl) ⟨⟨_,_,rfl,.inl rfl⟩,⟨_,_,rfl,.inl rfl⟩,⟨_,_,rfl,.inl rfl⟩,trivial⟩ (λd hd=>?_) (by decide))) (.inr rfl)
   obtain⟨i,hi,rfl⟩:=aQ.mp hd
   have Dw:i<7:=bS.mp hi
   have Mq:=Bt.pow MR i
   have hrv:Bt 5000 (R.getD i 0):=by
    rw[bM,cE (Qe Dw hR)]
    exact Yz _ (jy _)
   have aaF:803*i<=803*6:=Nat.mul_le_mul_left _ (ZK Dw)
   have Y5:Builtin.Int.intBits (x-p)<=803:=MR
   have hpz:(Builtin.Int.intBits (x-p):Int)*(i:Int)<=2 ^27:=by
    have:Builtin.Int.intBits (x-p)*i<=803*6:=Nat.mul_le_mul Y5 (ZK Dw)
    have e:(Builtin.Int.intBits (x-p):Int)*(i:Int)=((Builtin.Int.intBits (x-p)*i:Nat):Int):=by rw[Int.natCast_mul]
    rw[e];exact Sd this
   exact⟨.inl rfl,Ev.bin (Ev.sub (md:=.any) (Ev.o (DL R) rfl) (Ev.o (.int i) rfl) (gR i Dw)) (Ev.bin (Ev.bin (Ev.o (.int x) rfl) (Ev.o (.int p) rfl) ak.sub|>.up (.inl rfl)) (Ev.o (.int i) rfl) (ak.pow (b:=(i:Int)) (Q0) hpz)|>.up (.inl rfl)) (ak.mul (iA hrv Mq (Up Dw)))⟩
 refine bq.ex (R:=Le (yP nums due weight side x p rs R)) (cH.jV (items:=R) D.int (λ_=>yP nums due weight side x p rs R) (λ_=>True) (Le (yP nums due weight side x p rs R)) (aN.list (Ev.name rfl) (bA _)) (λ_ _=>rfl) ⟨.inl rfl,ai⟩ ⟨rfl,rfl,rfl,rfl,rfl,rfl,rfl,rfl,trivial⟩ trivial ?_ (λ_ aq h=>h) λaq h=>.inl ⟨rfl,h⟩) λaq Jg=>bq.weak Jg ?_
 · intro done v left hi _
   refine Ex.ite (b:=false) (λaq=>aq=(yP nums due weight side x p rs R).set "value" false (.int v)) ?_ (λh=>nomatch h) (λ_=>Ex.nil (.inl ⟨rfl,rfl⟩)) λaq e=>e▸Ex.done (.inl ⟨rfl,trivial,rfl,rfl,rfl,rfl,rfl,rfl,rfl,rfl,trivial⟩)
   have e:(!((v==0)==((decide (256<=256+v)==true)&&(decide (256<=255+v)==false))))=false:=by
    by_cases h0:v=0
    · rw[h0];rfl
    · have e0:(v==0)=false:=by simpa using h0
      rw[e0]
      by_cases h1:0<=v
      · have:decide (256<=255+v)=true:=by simp;exact Se h1 h0
        rw[this];simp
      · have:decide (256<=256+v)=false:=by simp;exact QI h1
        rw[this];simp
   refine Te.val e ?_
   refine Te.cmp (Ev.call (ds:=[.int v]) (aK.glob rfl X.gE) (Ar.cons (Ev.o _ rfl) Ar.nil) X.kE (X.eof v)|>.up (.inl rfl)) (Ev.and (Ev.cmp (Ev.call (ds:=[.int (256+v)]) (aK.glob rfl X.gN) (Ar.cons (Ev.bin Ev.aG (Ev.o (.int v) rfl) ak.add|>.up (.inl rfl)) Ar.nil) X.kN (X.mz _)|>.up (.inl rfl)) Ev.gB aH.isBool) λ_=>Ev.cmp (Ev.call (ds:=[.int (255+v)]) (aK.glob rfl X.gN) (Ar.cons (Ev.bin Ev.aG (Ev.o (.int v) rfl) ak.add|>.up (.inl rfl)) Ar.nil) X.kN (X.mz _)|>.up (.inl rfl)) Ev.gB aH.isBool) aH.dc
 refine bq.iG (d:=.int at') (aP.jg (md:=.fresh) (Ev.call (ds:=[DL (MV R)]) (aK.blt rfl X.min) (Ar.cons ?_ Ar.nil) aA.blt (Fn.zE hat hle)) rfl) ⟨.inl rfl,ai⟩ ?_
 · show Ev _ _ _ _ _ _ _ (.list ((((List.range 7).filter λk=>R.getD k 0 !=0).map Int.ofNat).map D.int))
   rw[<-zU]
   refine Ev.up (md:=.fresh) (Ev.comp (cC.name (items:=(List.range 7).map λ(i:Nat)=>D.int i) (g:=Oa R) rI (λd hd=>by obtain⟨i,_,rfl⟩:=aQ.mp hd;rfl) ⟨⟨_,_,rfl,.inl rfl⟩,trivial⟩ (λd hd=>?_) (by decide))) (.inr rfl)
   obtain⟨i,hi,rfl⟩:=aQ.mp hd
   have Dw:i<7:=bS.mp hi
   have eg:Oa R (D.int i)=if R.getD i 0 !=0 then some (D.int i) else none:=rfl
   rw[eg]
   by_cases hz:(R.getD i 0 !=0)=true
   · rw[af hz]
     have e:((R.getD i 0==0)==false)=true:=by simpa using hz
     refine⟨.inr ⟨_,rfl,Te.val e ?_⟩,Ev.o (.int i) rfl|>.up (.inl rfl)⟩
     exact Te.cmp (Ev.call (ds:=[.int (R.getD i 0)]) (aK.glob rfl X.gE) (Ar.cons (Ev.sub (md:=.any) (Ev.o (DL R) rfl) (Ev.o (.int i) rfl) (gR i Dw)) Ar.nil) X.kE (X.eof _)|>.up (.inl rfl)) Ev.gB aH.isBool
   · rw[aa hz]
     have e:((R.getD i 0==0)==false)=false:=by simpa using hz
     refine⟨_,rfl,Te.val e ?_⟩
     exact Te.cmp (Ev.call (ds:=[.int (R.getD i 0)]) (aK.glob rfl X.gE) (Ar.cons (Ev.sub (md:=.any) (Ev.o (DL R) rfl) (Ev.o (.int i) rfl) (gR i Dw)) Ar.nil) X.kE (X.eof _)|>.up (.inl rfl)) Ev.gB aH.isBool
 refine bq.iG (f:=false) (aP.fresh (Ev.comp (cC.name (items:=R.map D.int) (g:=Ob) (aN.list (Ev.name rfl) (bA _)) (bA _) trivial (λd hd=>?_) (RH aF lR)))) ⟨.inr rfl,ai⟩ ?_
 · obtain⟨v,_,rfl⟩:=aQ.mp hd
   have eg:Ob (D.int v)=if v !=0 then some (.bool (decide (256<=255+v))) else none:=rfl
   rw[eg]
   by_cases hz:(v !=0)=true
   · rw[af hz]
     have e:(!((v==0)==true))=true:=by simpa using hz
     refine⟨.inr ⟨_,rfl,Te.val e ?_⟩,?_⟩
     · exact Te.cmp (Ev.call (ds:=[.int v]) (aK.glob rfl X.gE) (Ar.cons (Ev.o (.int v) rfl) Ar.nil) X.kE (X.eof _)|>.up (.inl rfl)) Ev.gB aH.dc
     · exact Ev.call (ds:=[.int (255+v)]) (aK.glob rfl X.gN) (Ar.cons (Ev.bin Ev.aG (Ev.o (.int v) rfl) ak.add|>.up (.inl rfl)) Ar.nil) X.kN (X.mz _)
   · rw[aa hz]
     have e:(!((v==0)==true))=false:=by simpa using hz
     refine⟨_,rfl,Te.val e ?_⟩
     exact Te.cmp (Ev.call (ds:=[.int v]) (aK.glob rfl X.gE) (Ar.cons (Ev.o (.int v) rfl) Ar.nil) X.kE (X.eof _)|>.up (.inl rfl)) Ev.gB aH.dc
 rw[zV]
 have hul:(gD R).length<=7:=by
  unfold gD
  rw[aM]
  exact aX (List.length_filter_le _ _) (OT hR)
 unfold ju at Oc
 generalize gD R=U at*
 have lU:(U.map D.bool).length=U.length:=aM _
 refine bq.iG (d:=.int (((List.range (U.length-1)).filter λi=>!(U.getD (1+i) false==U.getD (1+i-1) false)).length:Nat)) (aP.jg (md:=.fresh) (Ev.val (congrArg (λ(n:Nat)=>D.int (n:Int)) (zW U (List.range (U.length-1)))) (Ev.call (ds:=[.list (((List.range (U.length-1)).map λ(i:Nat)=>D.int (1+i)).filterMap (MW U))]) (aK.blt rfl X.len) (Ar.cons (Ev.up (md:=.fresh) (Ev.comp (cC.name (items:=(List.range (U.length-1)).map λ(i:Nat)=>D.int (1+i)) (g:=MW U) ?_ (λd hd=>by obtain⟨i,_,rfl⟩:=aQ.mp hd;rfl) ⟨⟨_,_,rfl,.inl rfl⟩,trivial⟩ (λd hd=>?_) (by rw[aM,List.length_range];exact SM aF hul)))
  (.inr rfl)) Ar.nil) aA.blt Fn.gm)) rfl) ⟨.inl rfl,ai⟩ ?_
 · have e1:((U.length:Int)-1).toNat=U.length-1:=J5
   rw[<-e1]
   exact aN.call (ds:=[.int 1,.int U.length]) (aK.blt rfl X.vq) (Ar.cons Ev.aG (Ar.cons ((lU.symm▸Ev.call (ds:=[DB U]) (aK.blt rfl X.len) (Ar.cons (Ev.o _ rfl) Ar.nil) aA.blt Fn.gm|>.up (.inl rfl))) Ar.nil)) aA.typ (ee.lY (a:=1) (b:=U.length) (by lia) (by lia))
 · obtain⟨i,hi,rfl⟩:=aQ.mp hd
   have Dw:i<U.length-1:=bS.mp hi
   have e1:(1+(i:Int)).toNat=1+i:=J7
   have e2:(1+(i:Int)-1).toNat=1+i-1:=Kp
   have eg:MW U (D.int (1+i))=if !(U.getD (1+i) false==U.getD (1+i-1) false) then some (D.int (1+i)) else none:=by
    show(if !(U.getD (1+(i:Int)).toNat false==U.getD (1+(i:Int)-1).toNat false) then _ else _)=_
    rw[e1,e2]
   rw[eg]
   have g1:aL C k (DB U) (.int (1+i)) (.bool (U.getD (1+i) false)):=aL.list ((e1▸zX (Rd Dw))) (Q9)
   have g2:aL C k (DB U) (.int (1+i-1)) (.bool (U.getD (1+i-1) false)):=aL.list (by rw[e2];exact zX (R4 Dw)) (Z6)
   by_cases hz:(!(U.getD (1+i) false==U.getD (1+i-1) false))=true
   · rw[af hz]
     refine⟨.inr ⟨_,rfl,Te.val hz ?_⟩,Ev.o (.int (1+i)) rfl|>.up (.inl rfl)⟩
     exact Te.cmp (Ev.sub (md:=.any) (Ev.o (DB U) rfl) (Ev.o (.int (1+i)) rfl) g1) (Ev.sub (md:=.any) (Ev.o (DB U) rfl) (Ev.bin (Ev.o (.int (1+i)) rfl) Ev.aG ak.sub|>.up (.inl rfl)) g2) aH.dc
   · rw[aa hz]
     refine⟨_,rfl,Te.val (Bool.not_eq_true _▸hz:(!(U.getD (1+i) false==U.getD (1+i-1) false))=false) ?_⟩
     exact Te.cmp (Ev.sub (md:=.any) (Ev.o (DB U) rfl) (Ev.o (.int (1+i)) rfl) g1) (Ev.sub (md:=.any) (Ev.o (DB U) rfl) (Ev.bin (Ev.o (.int (1+i)) rfl) Ev.aG ak.sub|>.up (.inl rfl)) g2) aH.dc
 generalize ((List.range (U.length-1)).filter λi=>!(U.getD (1+i) false==U.getD (1+i-1) false)).length=ab at*
 refine bq.pass ?_ (bq.nil (hP _ (Sub.le ⟨rfl,rfl,rfl,rfl,rfl,rfl,rfl,rfl,trivial⟩)))
 have e:(!(ir due nums p==[6-at'-(ab:Int),at',(ab:Int)]))=false:=by rw[Oc];simp
 refine Te.val e ?_
 exact Te.cmp (Ev.call (ds:=[DL due,DL nums,.int p]) (aK.glob rfl X.gP) (Ar.cons (Ev.o _ rfl) (Ar.cons (Ev.o _ rfl) (Ar.cons (Ev.o _ rfl) Ar.nil))) X.kP (X.N_ due nums p (Qf MY MX) MX ID hp MZ)|>.up (.inr rfl)) (Ev.list (ds:=[.int (6-at'-(ab:Int)),.int at',.int (ab:Int)]) (md:=.any) (Ar.cons (Ev.bin (Ev.bin Ev.aG (Ev.o (.int at') rfl) ak.sub|>.up (.inl rfl)) (Ev.o (.int ab) rfl) ak.sub|>.up (.inl rfl)) (Ar.cons (Ev.o _ rfl) (Ar.cons (Ev.o _ rfl) Ar.nil))) (cB rfl)) (aH.rY (l:=ir due nums p) (m:=[6-at'-(ab:Int),at',(ab:Int)]))
end
section
variable{C:Cx}{T:jL}{k:Nat}{fI fE fN fP:Addr}{σ:Sg}
theorem M0(X:zT C T k fI fE fN fP){nums due:List Int}{weight side x Ho at2:Int}{P:Sg->Fl->Prop}(hs:side=1 \/side= -1)(hx:Bt 800 x)(MX:nums.length=6)(MY:due.length=6)
 (ID: ∀j,j<6->dB (due.getD j 0) 6<6/\ dB (due.getD j 0) 6≠j/\ (due.getD j 0=dB (due.getD j 0) 6 \/due.getD j 0=(dB (due.getD j 0) 6:Int)-6)) (MZ: ∀j,Bt 10 (nums.getD j 0))
 (h1:JN nums due weight side x (nums.getD 0 0-30) Ho) (h2:JN nums due weight side x 0 at2) (hP: ∀aq,P aq (.ret (.bool true))):bq C T jF [] k (yO nums due weight side x) (execs (vK 27)) P:=by
 have aF:sizeLine=16777216:=rfl
 have turn: ∀p at',JN nums due weight side x p at'->bq C T jF [] k ((yO nums due weight side x).set "place" false (.int p)) (execs (xy 0)) λaq fl=>fl= .next/\ Sub (yO nums due weight side x) aq:=λp at' F=>by
  refine bq.pairE (g:=true) (d₁:=.int weight) (d₂:=.list []) (dj.Lq rfl (Ev.tuple (ds:=[.int weight,.list []]) (Ar.cons (Ev.o (.int weight) rfl|>.up (.inl rfl)) (Ar.cons (Ev.list (ds:=[]) (md:=.fresh) Ar.nil (by decide)) Ar.nil)) (cB rfl))) ⟨.inl rfl,ai⟩ ⟨.inr rfl,ai⟩ ?_
  refine Je X (weight:=weight) hs hx F.bits F.pb F.ne (λaq hle=>bq.weak hle ?_) ⟨rfl,rfl,rfl,rfl,rfl,rfl,rfl,rfl,trivial⟩
  have hl:=qf side x p weight 6
  have hR:kY side x p weight=(eK side x p weight 6).2++[(eK side x p weight 6).1]:=rfl
  have hRl:(kY side x p weight).length=7:=by rw[hR,cF,hl];rfl
  refine bq.push (x:="row") (ds:=(eK side x p weight 6).2.map D.int) (md:=.any) (d:=.int (eK side x p weight 6).1) rfl (Ev.o _ rfl) (.inl rfl) (by rw[aM,hl];exact P5 aF) ?_
  refine bq.freeze (x:="row") (d:=.list ((eK side x p weight 6).2.map D.int++[.int (eK side x p weight 6).1])) rfl ?_
  have e:D.list ((eK side x p weight 6).2.map D.int++[.int (eK side x p weight 6).1])=DL (kY side x p weight):=by rw[hR];show _=D.list (_:List D);rw[dN];rfl
  rw[e]
  refine bq.mono (bq.weak (τ:=yP nums due weight side x p (eK side x p weight 6).1 (kY side x p weight)) (Sub.le ⟨rfl,rfl,rfl,rfl,rfl,rfl,rfl,rfl,trivial⟩) (FZ (P:=λaq fl=>fl= .next/\ Sub (yO nums due weight side x) aq) X hRl F.rest F.sum F.atm F.YZ F.N_ hx F.pb F.Y0 MX MY ID MZ λaq hle=>⟨rfl,hle _ _ _ rfl,hle _ _ _ rfl,hle _ _ _ rfl,hle _ _ _ rfl,hle _ _ _ rfl,trivial⟩)) λ_ _ h=>h
 refine bq.jV (items:=[nums.getD 0 0-30,0]) D.int (λ_=>yO nums due weight side x) (λ_=>True) (λ_=>True) (aN.tup (ds:=[.int (nums.getD 0 0-30),.int 0]) (Ev.tuple (Ar.cons (Ev.bin (Ev.sub (md:=.any) (Ev.o (DL nums) rfl) Ev.aG (aL.list (bQ (i:=0) (by exact OU MX)) (by decide))) Ev.aG ak.sub|>.up (.inl rfl)) (Ar.cons Ev.aG Ar.nil)) (cB rfl)) (by intro d hd;simp at hd;rcases hd with rfl|rfl<;>rfl)) (λ_ _=>rfl) ⟨.inr rfl,ai⟩ ⟨rfl,rfl,rfl,rfl,rfl,trivial⟩ trivial (λdone p left hi _=>?_) (λ_ aq _=>trivial) λaq _=>bq.Fy (md:=.any) Ev.gB (.inl rfl) (hP _)
 have hp:p=nums.getD 0 0-30 \/p=0:=by
  have:p∈[nums.getD 0 0-30,0]:=by rw[hi];simp
  simpa using this
 rcases hp with rfl|rfl
 · exact bq.mono (turn _ _ h1) λaq fl h=>.inl ⟨h.1,trivial,h.2⟩
 · exact bq.mono (turn _ _ h2) λaq fl h=>.inl ⟨h.1,trivial,h.2⟩
end
structure Dy where
 (it strip ya d2 Bq Br Hp k_ init long level equal less mz lK words text lead cols number nF sizes ja weigh JP:Addr)
structure mJ(C:Cx)(T:jL)(K:Frag)(Tb:List (PyData×PyData))(a:Dy):Prop where
 it:bu C 2 a.it
 strip:bu C 3 a.strip
 ya:bu C 4 a.ya
 d2:bu C 7 a.d2
 Bq:bu C 9 a.Bq
 Br:bu C 10 a.Br
 Hp:bu C 11 a.Hp
 k_:bu C 12 a.k_
 mz:bu C 67 a.mz
 lK:bu C 68 a.lK
 words:bu C 70 a.words
 text:bu C 71 a.text
 lead:bu C 72 a.lead
 cols:bu C 73 a.cols
 number:bu C 74 a.number
 nF:bu C 75 a.nF
 sizes:bu C 76 a.sizes
 ja:bu C 77 a.ja
 weigh:bu C 78 a.weigh
 cls:se C K a.init
 kc:keepIn K (.ref C.wc)=true
 init:vj C 1 a.init
 long:fU C K 2 a.long
 level:fU C K 3 a.level
 equal:fU C K 4 a.equal
 less:fU C K 6 a.less
 tb:FN C T a.Bq a.Br
 Dz:jT C "_DIV_LIMIT" (.int 4000)
 yI:jT C "ENDMARKER" (.int 0)
 M1:jT C "NT_OFFSET" (.int 256)
 By:jT C "EXACT_TOKEN_TYPES" (.addr a.JP)
 tab:zF C a.JP Tb
 Jh:vD Tb
 sum:bT C "sum" (.builtin "sum")
 min:bT C "min" (.builtin "min")
 enum:bT C "enumerate" (.type "enumerate")
 dm:bT C "divmod" (.builtin "divmod")
 rev:bT C "reversed" (.type "reversed")
section
variable{C:Cx}{T:jL}{K:Frag}{Tb:List (PyData×PyData)}{a:Dy}{k:Nat}
theorem mJ.M3(X:mJ C T K Tb a):zT C T (k+30) a.k_ a.lK a.mz a.ja where
 k_:=λx y hx hy hb=>(MA (k:=k+19) X.k_ X.Hp (MT (k:=k) X.tb X.d2 X.Bq X.Br X.Dz X.dm X.rev) hx hy hb).le (QJ)
 gI:=X.k_.1
 kI:=aA.fn X.k_.2
 eof:=λv=>E6 X.lK X.yI
 gE:=X.lK.1
 kE:=aA.fn X.lK.2
 mz:=λv=>H_ X.mz X.M1
 gN:=X.mz.1
 kN:=aA.fn X.mz.2
 N_:=λover numbers place h1 h2 h3 h4 h5=>CT X.ja X.cls.len X.cls.vq h1 h2 h3 h4 h5
 gP:=X.ja.1
 kP:=aA.fn X.ja.2
 vq:=X.cls.vq
 sum:=X.sum
 min:=X.min
 len:=X.cls.len
theorem aA.cls(X:mJ C T K Tb a):aA C (.ref C.wc):=λh B=>keeps_K X.kc h (X.cls.hK h B)
end
end Mine
end
section
open PySem PySem.W PyProof.Rows PySem.Challenge
open Builtin Builtin.Str
namespace Mine
noncomputable def quo:Str:="\""
noncomputable def piecesOf(text:Str):List Str:=Txt.split text "\""
noncomputable def qS(word:Str):Str:=Txt.slice word (some 1) none++ "("
noncomputable def tM(total:Int):Int:=2 ^(40+total.fmod 700).toNat
noncomputable def lM(total:Int):Int:=1-2*(total.fdiv 2).fmod 2
structure Y6(Tb:List (PyData×PyData))(aj:List Int)(words:List Str)(nums:List Int)(en:Nat->Nat)(text word:Str):Prop where
 M4:text=textOf aj words
 Hq:word=cZ text
 Hr:text.length<=1000
 zY:word.length<=900
 Hs:fW text=false
 M5:fW word=false
 dl:aj.length=6
 wl:words.length=6
 Od: ∀w∈words,w.length<=10
 dd: ∀j,j+1<aj.length->0<=aj.getD j 0+1-aj.getD (j+1) 0/\ aj.getD j 0+1-aj.getD (j+1) 0<=8
 de:0<=aj.getD (aj.length-1) 0/\ aj.getD (aj.length-1) 0<=7
 parts:(partsBetween text (occurrences text "\"" 0 text.length (text.length+1)) (Str.ofString "\"").length).length<=sizeLine
 join:word=Txt.join "" (pick (piecesOf text) none none (some 3))
 jok:JoinOk "" (pick (piecesOf text) none none (some 3))=true
 Y7:checkOf text=true
 M6:fW (qS word)=false
 Ji:fW (cZ (qS word))=false
 Y8:checkOf (qS word)=false
 ends:yJ word en
 M7: ∀p e:Nat,fW (kX word p e)=false/\ fW (cZ (kX word p e))=false
 szl:(sizesOf word en).length=6
 sz: ∀j,j<6->1<=(sizesOf word en).getD j 0/\ (j:Int)+(sizesOf word en).getD j 0<=6
 pcl: ∀q∈pick (piecesOf text) (some 1) none (some 3),q.length<=1000
 pcn:(pick (piecesOf text) (some 1) none (some 3)).map (λq=>numberOf Tb q 0)=nums
 nb: ∀j,Bt 10 (nums.getD j 0)
 nl:nums.length=6
theorem yQ(t:Int):Bt 800 (tM t):=by
 have h1:=iw t (show(0:Int)<700 by decide)
 have h2:=jx t (show(0:Int)<700 by decide)
 exact(Dq _).up (Ti h2)
theorem qg(t:Int):lM t=1 \/lM t= -1:=by
 have h1:=iw (t.fdiv 2) (show(0:Int)<2 by decide)
 have h2:=jx (t.fdiv 2) (show(0:Int)<2 by decide)
 unfold lM
 exact Vz h1 h2
noncomputable def Jj(aj:List Int)(words:List Str)(nums due:List Int)(total:Int):Sg:=[("depths",false,DL aj),("words",false,.list (words.map .str)),("told",false,DL nums),("over",false,DL due),("total",false,.int total)]
section
variable{C:Cx}{T:jL}{K:Frag}{Tb:List (PyData×PyData)}{a:Dy}{k:Nat}
theorem M8(X:mJ C T K Tb a){aj:List Int}{words:List Str}{nums due:List Int}{total:Int}{en:Nat->Nat}{text word:Str}{P:Sg->Fl->Prop}(F:Y6 Tb aj words nums en text word)
 (hn:bq C T jF [] (k+30) (yO nums due (gx (sizesOf word en) nums (tM total)) (lM total) (tM total)) (execs (vK 27)) P):bq C T jF [] (k+30) (Jj aj words nums due total) (execs (vK 19)) P:=by
 have aF:sizeLine=16777216:=rfl
 have ht:Fn C (k+30) (.ref a.text) [DL aj,.list (words.map D.str)] (.str text):=by
  rw[F.M4]
  exact IG X.text X.cls.len X.cls.vq (by rw[F.dl];decide) (by rw[F.dl,F.wl]) (by rw[F.wl];decide) F.Od F.dd F.de
 have hw:Fn C (k+30) (.ref a.strip) [.str text] (.str word):=by
  rw[F.Hq]
  exact zM X.strip X.it X.enum X.cls.len F.Hs F.Hr
 have yj:Fn C (k+30) (.ref a.ya) [.str text] (.bool (checkOf text)):=vF X.ya X.strip X.it X.enum X.cls.len F.Hs (by rw[<-F.Hq];exact F.M5) F.Hr
 have Ht:(Str.ofString "(").length=1:=by decide
 have jJ:(qS word).length<=1000:=by
  unfold qS
  rw[gH]
  have:=jZ word (some 1) none
  have:=F.zY
  exact Uq Ht this (by assumption)
 have BW:Fn C (k+30) (.ref a.ya) [.str (qS word)] (.bool (checkOf (qS word))):=vF X.ya X.strip X.it X.enum X.cls.len F.M6 F.Ji jJ
 refine bq.iG (d:=.str text) (aP.jg (md:=.fresh) (Ev.call (aK.glob rfl X.text.1) (Ar.cons (Ev.o _ rfl) (Ar.cons (Ev.o _ rfl) Ar.nil)) (aA.fn X.text.2) ht) rfl) ⟨.inl rfl,ai⟩ ?_
 refine bq.iG (d:=.str word) (aP.jg (md:=.fresh) (Ev.call (aK.glob rfl X.strip.1) (Ar.cons (Ev.o (.str text) rfl) Ar.nil) (aA.fn X.strip.2) hw) rfl) ⟨.inl rfl,ai⟩ ?_
 refine bq.iG (f:=false) (d:=.list ((piecesOf text).map D.str)) (aP.fresh (Ev.split (x:=text) (y:="\"") (Ev.o _ rfl) (Ev.iB (by decide)) rfl F.parts)) ⟨.inl rfl,ai⟩ ?_
 refine bq.pass ?_ ?_
 · have e1:(word.cps.toList !=(Txt.join "" (pick (piecesOf text) none none (some 3))).cps.toList)=false:=by rw[<-F.join];simp
   have e2:(!(checkOf text==true))=false:=by rw[F.Y7];rfl
   refine Te.or (b₁:=false) (b₂:=false) (Te.val e1 (Te.cmp (Ev.o (.str word) rfl) (Ev.join (xs:=pick (piecesOf text) none none (some 3)) (Ev.iB (by decide)) ?_ F.jok (by rw[<-F.join];have:=F.zY;exact Sf aF this)|>.up (.inl rfl)) aH.Gy)) λ_=>Te.val e2 (Te.cmp (Ev.call (aK.glob rfl X.ya.1) (Ar.cons (Ev.o (.str text) rfl) Ar.nil) (aA.fn X.ya.2) yj|>.up (.inl rfl)) Ev.gB aH.dc)
   rw[<-oO]
   exact Ev.up (Ev.jR (Ev.o (.list ((piecesOf text).map D.str)) rfl) (lI _) trivial trivial (show cI _ _ _ _ _ (some _) (some 3) from Ev.aG) (by decide)) (.inr rfl)
 refine bq.pass ?_ ?_
 · have e2:(!(checkOf (qS word)==false))=false:=by rw[F.Y8];rfl
   exact Te.val e2 (Te.cmp (Ev.call (ds:=[.str (qS word)]) (aK.glob rfl X.ya.1) (Ar.cons (Ev.bin (Ev.lC (Ev.o (.str word) rfl) (show cI _ _ _ _ _ (some _) (some 1) from Ev.aG) (show cI _ _ _ _ _ none none from trivial)|>.up (.inl rfl)) (Ev.iB (by decide)) (ak.gM (x:=Txt.slice word (some 1) none) (y:="(") (by have:=jZ word (some 1) none;have:=F.zY;exact VR Ht aF this (by assumption)))|>.up (.inl rfl)) Ar.nil) (aA.fn X.ya.2) BW|>.up (.inl rfl)) Ev.gB aH.dc)
 have Ys:=iw total (show(0:Int)<700 by decide)
 have hm1:=jx total (show(0:Int)<700 by decide)
 have NU:Builtin.Int.intBits 2=2:=by decide+kernel
 refine bq.iG (d:=.int (tM total)) (aP.jg (md:=.fresh) (Ev.bin Ev.aG (Ev.bin Ev.aG (Ev.bin (Ev.o (.int total) rfl) Ev.aG (ak.fmod (by decide))|>.up (.inl rfl)) ak.add|>.up (.inl rfl)) (ak.pow (a:=2) (b:=40+total.fmod 700) (PL Ys) (by rw[NU];exact TN hm1))) rfl) ⟨.inr rfl,ai⟩ ?_
 have hsz:Fn C (k+30) (.ref a.sizes) [.str word] (DL (sizesOf word en)):=Fx X.sizes X.ya X.strip X.it X.enum X.cls.len X.cls.vq F.ends (by have:=F.zY;exact NI this) F.M7
 have hwg:Fn C (k+30) (.ref a.weigh) [DL (sizesOf word en),DL nums,.int (tM total)] (.int (gx (sizesOf word en) nums (tM total))):=Fe X.weigh X.cls.len X.cls.vq (by rw[F.szl];decide) (by rw[F.szl];exact aR _) (λj hj=>by rw[F.szl] at hj ⊢;exact F.sz j hj) (by rw[F.szl,F.nl];exact aR _) (λj _=>F.nb j) (yQ total)
 have EJ:(DL nums)= .list (((pick (piecesOf text) (some 1) none (some 3)).map D.str).filterMap (onStr λq=>.int (numberOf Tb q 0))):=by
  rw[lZ,<-F.pcn]
  show D.list _=_
  rw[cN];rfl
 have EI:((pick (piecesOf text) (some 1) none (some 3)).map D.str).length<=sizeLine:=by
  have:=congrArg List.length F.pcn
  rw[aM,F.nl] at this
  rw[aM,this];exact P6 aF
 refine bq.iG (d:=.int (gx (sizesOf word en) nums (tM total))) (aP.jg (md:=.fresh) (Ev.call (ds:=[DL (sizesOf word en),DL nums,.int (tM total)]) (aK.glob rfl X.weigh.1) (Ar.cons (Ev.call (aK.glob rfl X.sizes.1) (Ar.cons (Ev.o (.str word) rfl) Ar.nil) (aA.fn X.sizes.2) hsz|>.up (.inr rfl)) (Ar.cons (Ev.val EJ.symm ?_) (Ar.cons (Ev.o _ rfl) Ar.nil))) (aA.fn X.weigh.2) hwg) rfl) ⟨.inl rfl,ai⟩ ?_
 · refine Ev.up (md:=.fresh) (Ev.comp (cC.name (items:=(pick (piecesOf text) (some 1) none (some 3)).map D.str) (g:=onStr λq=>.int (numberOf Tb q 0)) (aN.list ?_ (lI _)) (lI _) trivial (λd hd=>?_) EI)) (.inr rfl)
   · rw[<-oO]
     exact Ev.rL (Ev.jR (Ev.o (.list ((piecesOf text).map D.str)) rfl) (lI _) (show cI _ _ _ _ _ (some _) (some 1) from Ev.aG) trivial (show cI _ _ _ _ _ (some _) (some 3) from Ev.aG) (by decide))
   · obtain⟨q,hq,rfl⟩:=aQ.mp hd
     exact⟨.inl rfl,Ev.call (ds:=[.str q,.int 0]) (aK.glob rfl X.number.1) (Ar.cons (Ev.o _ rfl) (Ar.cons Ev.aG Ar.nil)) (aA.fn X.number.2) (wX X.number X.By X.tab X.Jh (F.pcl q hq))⟩
 have Y9:Builtin.Int.intBits 2<=64:=by rw[NU];decide
 refine bq.iG (d:=.int (lM total)) (aP.jg (md:=.fresh) (Ev.bin Ev.aG (Ev.bin Ev.aG (Ev.bin (Ev.bin (Ev.o (.int total) rfl) Ev.aG (ak.fdiv (by decide) (iX (by decide)))|>.up (.inl rfl)) Ev.aG (ak.fmod (by decide))|>.up (.inl rfl)) (ak.mul (lg Y9))|>.up (.inl rfl)) ak.sub) rfl) ⟨.inl rfl,ai⟩ ?_
 exact bq.weak (τ:=yO nums due (gx (sizesOf word en) nums (tM total)) (lM total) (tM total)) (Sub.le ⟨rfl,rfl,rfl,rfl,rfl,trivial⟩) hn
end
noncomputable def fz(rows:List (List Int))(words:List Str)(tail:Int):List Str:=(List.range 6).map λ(k:Nat)=>(eT (rows.getD k []) tail++words.getD k "")++ "x"
noncomputable def dR(cells:List Int):List Int:=[((cells.getD 1 0).fdiv 11520).fmod 4,((cells.getD 2 0).fdiv 11520).fmod 4]
noncomputable def bP(total:Int):Int:=(total.fdiv 9).fmod 4
noncomputable def dK(cells:List Int)(total:Int):WS:=wV (eT (dR cells) (bP total)++ "x")
noncomputable def eu(cells:List Int)(total:Int):List Int:=cW (dR cells) (bP total)
noncomputable def fO(total:Int):Int:=1+(total.fdiv 3).fmod 3
noncomputable def kJ(col Oe:List Int):List Int:=(List.range 4).map λ(j:Nat)=>col.getD j 0-Oe.getD j 0
noncomputable def DA(w:WS):Prop:=w.cnt.length<=900/\ 0<=w.trail/\ w.trail<=900
noncomputable def cA(bL:List Str)(k:Nat):WS:=wV (bL.getD k "")
structure Of(Tb:List (PyData×PyData))(cells nums due:List Int)(rows:List (List Int))(words bL:List Str)(total:Int):Prop where
 cl:cells.length=6
 nl:nums.length=6
 dl:due.length=6
 rl:rows.length=6
 rr: ∀k,k<6->(∀r∈rows.getD k [],0<=r/\ r<=3)/\ (rows.getD k []).length<=10
 wl:words.length=6
 Od: ∀w∈words,w.length<=10
 pg:bL=fz rows words (total.fmod 3)
 lw: ∀k,k<6->DA (cA bL k)
 aw:DA (dK cells total)
 M9: ∀k,k<6->dQ (cA bL k) (fO total)=(cW (rows.getD k []) (total.fmod 3)).getD (fO total-1).toNat 0
 eq: ∀k,k<6->((cA bL k).cnt==(dK cells total).cnt&&(cA bL k).trail==(dK cells total).trail)=(kJ (cW (rows.getD k []) (total.fmod 3)) (eu cells total)==[0,0,0,0])
 lt: ∀k,k<6-> ∃mx mn,mx∈kJ (cW (rows.getD k []) (total.fmod 3)) (eu cells total)/\ (∀g∈kJ (cW (rows.getD k []) (total.fmod 3)) (eu cells total),g<=mx)/\
  mn∈kJ (cW (rows.getD k []) (total.fmod 3)) (eu cells total)/\ (∀g∈kJ (cW (rows.getD k []) (total.fmod 3)) (eu cells total),mn<=g)/\
  h_ (cA bL k) (dK cells total)=decide (mx<0)/\ h_ (dK cells total) (cA bL k)=decide (0<mn)
 told: ∀k,k<6->numberOf Tb (bL.getD k "") (cA bL k).n=nums.getD k 0
 nF:vv (ny ((List.range 6).map (cA bL))) 6=due
theorem sM{row:List Int}{tail:Int}(hr: ∀r∈row,0<=r/\ r<=3)(ht:0<=tail/\ tail<=3):(eT row tail).length<=4*row.length+3:=by
 have X3:(Txt.join "" (row.map runOf)).length<=4*row.length:=by
  have h1:=StrLaws.join_length_le "" (row.map runOf)
  have h2:=StrLaws.sumLen_le (B:=4) (row.map runOf) (λy hy=>by obtain⟨r,v_,rfl⟩:=aQ.mp hy;exact vg (hr r v_))
  have e:Txt.join "" (row.map runOf)=Str.join "" (row.map runOf):=StrLaws.glued_eq_join _ _
  rw[e]
  rw[aM] at h1 h2
  have:(Str.ofString "").length=0:=rfl
  rw[this] at h1
  exact Kw h2 h1
 unfold eT
 rw[gH]
 have:=gO ht
 exact U8 X3 this
theorem jb(a:Int){n:Int}(h:0<n):0<=a.fmod n/\ a.fmod n<n:=⟨iw _ h,jx _ h⟩
theorem nG(rows:List (List Int))(words:List Str)(tail:Int):(fz rows words tail).length=6:=by unfold fz;simp
theorem yR(rows:List (List Int))(words:List Str)(tail:Int){k:Nat}(h:k<6):(fz rows words tail).getD k "" =(eT (rows.getD k []) tail++words.getD k "")++ "x":=by
 unfold fz
 rw[bM,cM,pG h];rfl
theorem map_range{α β:Type}(f:α->β)(l:List α)(d:α){n:Nat}(h:l.length=n):l.map f=(List.range n).map λk=>f (l.getD k d):=by
 apply List.ext_getElem
 · simp[h]
 · intro i h1 h2
   simp at h1
   simp[h1]
noncomputable abbrev DC(rows:List (List Int)):D:=.list (rows.map DL)
noncomputable def DE(cells nums due aj:List Int)(rows:List (List Int))(words:List Str)(total:Int):Sg:=[("cells",false,DL cells),("numbers",false,DL nums),("due",false,DL due),("depths",false,DL aj),("rows",false,DC rows),("words",false,.list (words.map .str)),("total",false,.int total)]
noncomputable def qF(cells nums due aj:List Int)(rows:List (List Int))(words bL:List Str)(total:Int):Sg:=[("cells",false,DL cells),("numbers",false,DL nums),("due",false,DL due),("depths",false,DL aj),("rows",false,DC rows),("words",false,.list (words.map .str)),("total",false,.int total),
 ("page",false,.list (bL.map .str)),("leads",false,.list (((List.range 6).map (cA bL)).map .ws)),("alone",false,.ws (dK cells total)),("beside",false,DL (eu cells total)),("size",false,.int (fO total))]
section
variable{C:Cx}{T:jL}{K:Frag}{Tb:List (PyData×PyData)}{a:Dy}{k:Nat}
theorem Jk(X:mJ C T K Tb a){cells nums due aj:List Int}{rows:List (List Int)}{words bL:List Str}{total:Int}{P:Sg->Fl->Prop}(F:Of Tb cells nums due rows words bL total)
 (hn:bq C T jF [] (k+30) (qF cells nums due aj rows words bL total) (execs (vK 15)) P):bq C T jF [] (k+30) (DE cells nums due aj rows words total) (execs (vK 9)) P:=by
 have aF:sizeLine=16777216:=rfl
 have h3:=jb total (show(0:Int)<3 by decide)
 have Og:(Str.ofString "x").length=1:=by decide
 have gw: ∀j:Nat,j<6->words.getD j "" ∈words:=λj hj=>by
  rw[bM,cE (by rw[F.wl];exact hj)]
  exact jy _
 have rI: ∀{σ:Sg} {p1 p2 p3:Pos} {n:Nat},aN C jF [] (k+30) σ (.Call (.Name "range" p1) [.Constant (.int 6) n p2] [] p3) ((List.range 6).map λ(i:Nat)=>D.int i):=
  aN.call (ds:=[.int 6]) (aK.blt rfl X.cls.vq) (Ar.cons Ev.aG Ar.nil) aA.typ (ee.jo (b:=6) (by decide) (by decide))
 have EI:(bL.map D.str).length=6:=by rw[aM,F.pg,nG]
 refine bq.iG (f:=false) (d:=.list (bL.map D.str)) (aP.fresh (Ev.val (d:=.list (((List.range 6).map λ(i:Nat)=>D.int i).filterMap (fZ λi=>.str ((eT (rows.getD i.toNat []) (total.fmod 3)++words.getD i.toNat "")++ "x")))) ?_ (Ev.comp (cC.name (items:=(List.range 6).map λ(i:Nat)=>D.int i) rI (λd hd=>by obtain⟨i,_,rfl⟩:=aQ.mp hd;rfl) ⟨⟨_,_,rfl,.inl rfl⟩,⟨_,_,rfl,.inl rfl⟩,⟨_,_,rfl,.inl rfl⟩,trivial⟩ (λd hd=>?_) (by decide))))) ⟨.inr rfl,ai⟩ ?_
 · have e:((List.range 6).map λ(i:Nat)=>D.int i)=((List.range 6).map λ(i:Nat)=>(i:Int)).map D.int:=by rw[cN];rfl
   simp only[e,dO,F.pg]
   unfold fz
   simp only[cN,cN];rfl
 · obtain⟨i,hi,rfl⟩:=aQ.mp hd
   have qG:i<6:=bS.mp hi
   have JQ:=F.rr i qG
   have EG:=sM JQ.1 (show 0<=total.fmod 3/\ total.fmod 3<=3 by exact Q89 h3.1 h3.2)
   have wj:=F.Od _ (gw i qG)
   have g1:aL C (k+30) (DC rows) (.int i) (DL (rows.getD i [])):=aL.list (by
    show(rows.map DL)[i]? =_
    simp only[cM,cE (by rw[F.rl];exact qG),bM,cE (by rw[F.rl];exact qG)];rfl) (Q0)
   have g2:aL C (k+30) (.list (words.map D.str)) (.int i) (.str (words.getD i "")):=aL.list (vE (by rw[F.wl];exact qG)) (Q0)
   exact⟨.inl rfl,Ev.bin (Ev.bin (Ev.call (ds:=[DL (rows.getD i []),.int (total.fmod 3)]) (aK.glob rfl X.lead.1) (Ar.cons (Ev.sub (Ev.o (DC rows) rfl) (Ev.o (.int i) rfl) g1) (Ar.cons (Ev.bin (Ev.o (.int total) rfl) Ev.aG (ak.fmod (by decide))|>.up (.inl rfl)) Ar.nil)) (aA.fn X.lead.2) (Cz X.lead JQ.1 (Pp JQ.2) ⟨ZI h3.1,OV h3.2⟩)|>.up (.inl rfl))
    (Ev.sub (Ev.o (.list (words.map D.str)) rfl) (Ev.o (.int i) rfl) g2) (ak.gM (x:=eT (rows.getD i []) (total.fmod 3)) (y:=words.getD i "") (Wt aF EG wj JQ.2))|>.up (.inl rfl)) (Ev.iB (by decide)) (ak.gM (x:=eT (rows.getD i []) (total.fmod 3)++words.getD i "") (y:="x") (by rw[gH];exact W0 Og aF EG wj JQ.2))⟩
 refine bq.iG (f:=false) (d:=.list (((List.range 6).map (cA bL)).map .ws)) (aP.fresh (Ev.val (d:=.list ((bL.map D.str).filterMap (onStr λx=>.ws (wV x)))) ?_ (Ev.comp (cC.name (items:=bL.map D.str) (aN.list (Ev.name rfl) (lI _)) (lI _) trivial (λd hd=>?_) (Q93 aF EI))))) ⟨.inr rfl,ai⟩ ?_
 · rw[lZ,map_range _ bL "" (by rw[F.pg,nG]),cN];rfl
 · obtain⟨x,hx,rfl⟩:=aQ.mp hd
   exact⟨.inl rfl,Ev.call (ds:=[.str x]) (aK.glob rfl X.cls.glob) (Ar.cons (Ev.o _ rfl) Ar.nil) (aA.cls X) (Lv X.cls.hK X.cls.cls X.init X.cls.glob X.cls.len X.cls.tup)⟩
 have gc: ∀j:Nat,j<6->aL C (k+30) (DL cells) (.int j) (.int (cells.getD j 0)):=λj hj=>aL.list (bQ (by rw[F.cl];exact hj)) (Q0)
 have ec: ∀{σ:Sg} {p1 p2 p3:Pos} {n j:Nat},j<6->σ.get "cells" =some (false,DL cells)->Ev C jF [] (k+30) σ (.Subscript (.Name "cells" p1) (.Constant (.int j) n p2) p3) .any (.int (cells.getD j 0)):=λhj h=>Ev.sub (Ev.own h) Ev.aG (gc _ hj)
 refine bq.ex (R:=λaq=>∃sN,Le (DE cells nums due aj rows words total) sN/\ sN.get "page" =some (false,.list (bL.map .str))/\ sN.get "leads" =some (false,.list (((List.range 6).map (cA bL)).map .ws))/\ aq=(sN.set "behind" false (.int (bP total))).set "wide" false (DL (dR cells))) (cH.wM (d₁:=DL (dR cells)) (d₂:=.int (bP total)) (dj.clean (Ev.rL (Ev.tuple (ds:=[DL (dR cells),.int (bP total)]) (Ar.cons (Ev.list (ds:=[.int (((cells.getD 1 0).fdiv 11520).fmod 4),.int (((cells.getD 2 0).fdiv 11520).fmod 4)]) (Ar.cons (Ev.bin (Ev.bin (Ev.sub (md:=.any) (Ev.o (DL cells) rfl) Ev.aG (gc 1 (by decide))) Ev.aG (ak.fdiv (by decide) (iX (by decide)))|>.up (.inl rfl)) Ev.aG (ak.fmod (by decide)))
  (Ar.cons (Ev.bin (Ev.bin (Ev.sub (md:=.any) (Ev.o (DL cells) rfl) Ev.aG (gc 2 (by decide))) Ev.aG (ak.fdiv (by decide) (iX (by decide)))|>.up (.inl rfl)) Ev.aG (ak.fmod (by decide))) Ar.nil)) (cB rfl))
  (Ar.cons (Ev.bin (Ev.bin (Ev.o (.int total) rfl) Ev.aG (ak.fdiv (by decide) (iX (by decide)))|>.up (.inl rfl)) Ev.aG (ak.fmod (by decide))) Ar.nil)) (cB rfl)))) ⟨.inl rfl,ai⟩ ⟨.inl rfl,ai⟩ (.inl ⟨rfl,_,Sub.le ⟨rfl,rfl,rfl,rfl,rfl,rfl,rfl,trivial⟩,rfl,rfl,rfl⟩)) λaq h=>?_
 obtain⟨sN,hle,Ir,G0,rfl⟩:=h
 have Jx:=jb (total.fdiv 9) (show(0:Int)<4 by decide)
 have hw1:=jb ((cells.getD 1 0).fdiv 11520) (show(0:Int)<4 by decide)
 have hw2:=jb ((cells.getD 2 0).fdiv 11520) (show(0:Int)<4 by decide)
 have nK: ∀r∈dR cells,0<=r/\ r<=3:=λr hr=>by
  rcases aB.mp hr with rfl|hr
  · exact J2 hw1.1 hw1.2
  · rw[ay.mp hr];exact J2 hw2.1 hw2.2
 refine bq.weak (τ:=[("cells",false,DL cells),("numbers",false,DL nums),("due",false,DL due),("depths",false,DL aj),("rows",false,DC rows),("words",false,.list (words.map .str)),("total",false,.int total),("page",false,.list (bL.map .str)),("leads",false,.list (((List.range 6).map (cA bL)).map .ws)),("wide",false,DL (dR cells)),("behind",false,.int (bP total))]) (Sub.le ?_) ?_
 · have hs: ∀x f d,sN.get x=some (f,d)->x≠ "behind" ->x≠ "wide" ->((sN.set "behind" false (.int (bP total))).set "wide" false (DL (dR cells))).get x=some (f,d):=λx f d h h1 h2=>by
    rw[Sg.get_set,aa h2,Sg.get_set,aa h1];exact h
   have hl:=λx f d (h:(DE cells nums due aj rows words total).get x=some (f,d))=>hs x f d (hle _ _ _ h)
   refine⟨hl _ _ _ rfl (by decide) (by decide),hl _ _ _ rfl (by decide) (by decide),hl _ _ _ rfl (by decide) (by decide),hl _ _ _ rfl (by decide) (by decide),hl _ _ _ rfl (by decide) (by decide),hl _ _ _ rfl (by decide) (by decide),hl _ _ _ rfl (by decide) (by decide),hs _ _ _ Ir (by decide) (by decide),hs _ _ _ G0 (by decide) (by decide),?_,?_,trivial⟩
   · rw[Sg.get_set,af rfl]
   · rw[Sg.get_set,aa (by decide),Sg.get_set,af rfl]
 have EG:=sM nK (show 0<=bP total/\ bP total<=3 by unfold bP;exact J2 Jx.1 Jx.2)
 have wj:(dR cells).length=2:=rfl
 refine bq.iG (f:=false) (d:=.ws (dK cells total)) (aP.fresh (Ev.call (ds:=[.str (eT (dR cells) (bP total)++ "x")]) (aK.glob rfl X.cls.glob) (Ar.cons (Ev.bin (Ev.call (ds:=[DL (dR cells),.int (bP total)]) (aK.glob rfl X.lead.1) (Ar.cons (Ev.o _ rfl) (Ar.cons (Ev.o _ rfl) Ar.nil)) (aA.fn X.lead.2) (Cz X.lead nK (Pb wj) (by unfold bP;exact J2 Jx.1 Jx.2))|>.up (.inl rfl)) (Ev.iB (by decide)) (ak.gM (x:=eT (dR cells) (bP total)) (y:="x") (Wd Og aF wj EG))|>.up (.inl rfl)) Ar.nil) (aA.cls X) (Lv X.cls.hK X.cls.cls X.init X.cls.glob X.cls.len X.cls.tup))) ⟨.inl rfl,ai⟩ ?_
 refine bq.iG (f:=false) (d:=DL (eu cells total)) (aP.fresh (Ev.call (ds:=[DL (dR cells),.int (bP total)]) (aK.glob rfl X.cols.1) (Ar.cons (Ev.o _ rfl) (Ar.cons (Ev.o _ rfl) Ar.nil)) (aA.fn X.cols.2) (ua X.cols))) ⟨.inr rfl,ai⟩ ?_
 refine bq.iG (d:=.int (fO total)) (aP.jg (md:=.fresh) (Ev.bin Ev.aG (Ev.bin (Ev.bin (Ev.o (.int total) rfl) Ev.aG (ak.fdiv (by decide) (iX (by decide)))|>.up (.inl rfl)) Ev.aG (ak.fmod (by decide))|>.up (.inl rfl)) ak.add) rfl) ⟨.inl rfl,ai⟩ ?_
 exact bq.weak (τ:=qF cells nums due aj rows words bL total) (Sub.le ⟨rfl,rfl,rfl,rfl,rfl,rfl,rfl,rfl,rfl,rfl,rfl,rfl,trivial⟩) hn
end
theorem mK(row:List Int)(tail:Int):(cW row tail).length=4:=by unfold cW;simp
theorem yS(col Oe:List Int):((List.range 4).map λ(i:Nat)=>D.int i).filterMap (fZ λi=>.int (col.getD i.toNat 0-Oe.getD i.toNat 0))=(kJ col Oe).map D.int:=by
 have e:((List.range 4).map λ(i:Nat)=>D.int i)=((List.range 4).map λ(i:Nat)=>(i:Int)).map D.int:=by rw[cN];rfl
 simp only[e,dO]
 unfold kJ
 simp only[cN,cN];rfl
section
variable{C:Cx}{T:jL}{K:Frag}{Tb:List (PyData×PyData)}{a:Dy}{k:Nat}
theorem Jl(X:mJ C T K Tb a){cells nums due aj:List Int}{rows:List (List Int)}{words bL:List Str}{total:Int}{P:Sg->Fl->Prop}(F:Of Tb cells nums due rows words bL total)
 (hn:bq C T jF [] (k+30) (Jj aj words nums due total) (execs (vK 19)) P):bq C T jF [] (k+30) (qF cells nums due aj rows words bL total) (execs (vK 15)) P:=by
 have aF:sizeLine=16777216:=rfl
 have h3:=jb total (show(0:Int)<3 by decide)
 have hsz:1<=fO total/\ fO total<=3:=by
  have:=jb (total.fdiv 3) (show(0:Int)<3 by decide)
  unfold fO;exact TQ this.1 this.2
 have rI: ∀{σ:Sg} {p1 p2 p3:Pos} {n:Nat},aN C jF [] (k+30) σ (.Call (.Name "range" p1) [.Constant (.int 6) n p2] [] p3) ((List.range 6).map λ(i:Nat)=>D.int i):=
  aN.call (ds:=[.int 6]) (aK.blt rfl X.cls.vq) (Ar.cons Ev.aG Ar.nil) aA.typ (ee.jo (b:=6) (by decide) (by decide))
 have r4: ∀{σ:Sg} {p1 p2 p3:Pos} {n:Nat},aN C jF [] (k+30) σ (.Call (.Name "range" p1) [.Constant (.int 4) n p2] [] p3) ((List.range 4).map λ(i:Nat)=>D.int i):=
  aN.call (ds:=[.int 4]) (aK.blt rfl X.cls.vq) (Ar.cons Ev.aG Ar.nil) aA.typ (ee.jo (b:=4) (by decide) (by decide))
 have EI:bL.length=6:=by simp only[F.pg,nG]
 have gl: ∀i:Nat,i<6->aL C (k+30) (.list (((List.range 6).map (cA bL)).map .ws)) (.int i) (.ws (cA bL i)):=λi hi=>aL.list (by
  show(((List.range 6).map (cA bL)).map D.ws)[i]? =_
  simp only[cM,cM,pG hi];rfl) (Q0)
 have gpg: ∀i:Nat,i<6->aL C (k+30) (.list (bL.map D.str)) (.int i) (.str (bL.getD i "")):=λi hi=>aL.list (vE (OM hi EI)) (Q0)
 refine bq.ex (R:=Le (qF cells nums due aj rows words bL total)) (cH.jV (items:=List.range 6) (λ(i:Nat)=>D.int i) (λ_=>qF cells nums due aj rows words bL total) (λ_=>True) (Le (qF cells nums due aj rows words bL total)) rI (λ_ _=>rfl) ⟨.inl rfl,ai⟩ ⟨rfl,rfl,rfl,rfl,rfl,rfl,rfl,rfl,rfl,rfl,rfl,rfl,trivial⟩ trivial ?_ (λ_ aq h=>h) λaq h=>.inl ⟨rfl,h⟩) λaq Jg=>bq.weak Jg ?_
 · intro done i left hi _
   have qG:i<6:=bS.mp (by rw[hi];simp)
   have JQ:=F.rr i qG
   have yE:=F.lw i qG
   have Y_:=F.M9 i qG
   have heq:=F.eq i qG
   refine bk λG hG=>?_
   obtain⟨mx,mn,Oh,Za,hmn,Zb,hl1,hl2⟩:=F.lt i qG
   refine hG ?_;clear hG G
   have g1:aL C (k+30) (DC rows) (.int i) (DL (rows.getD i [])):=aL.list (by
    show(rows.map DL)[i]? =_
    simp only[cM,cE (by rw[F.rl];exact qG),bM,cE (by rw[F.rl];exact qG)];rfl) (Q0)
   refine Ex.set (f:=false) (d:=DL (cW (rows.getD i []) (total.fmod 3))) (aP.fresh (Ev.call (ds:=[DL (rows.getD i []),.int (total.fmod 3)]) (aK.glob rfl X.cols.1) (Ar.cons (Ev.sub (Ev.o (DC rows) rfl) (Ev.o (.int i) rfl) g1) (Ar.cons (Ev.bin (Ev.o (.int total) rfl) Ev.aG (ak.fmod (by decide))|>.up (.inl rfl)) Ar.nil)) (aA.fn X.cols.2) (ua X.cols))) ⟨.inr rfl,ai⟩ ?_
   have jJ:=mK (rows.getD i []) (total.fmod 3)
   have X7:(eu cells total).length=4:=mK _ _
   generalize cW (rows.getD i []) (total.fmod 3)=col at*
   refine Ex.gv (items:=(List.range 4).map λ(i:Nat)=>D.int i) (g:=fZ λi=>.int (col.getD i.toNat 0-(eu cells total).getD i.toNat 0)) false (cC.name r4 (λd hd=>by obtain⟨i,_,rfl⟩:=aQ.mp hd;rfl) ⟨⟨_,_,rfl,.inl rfl⟩,⟨_,_,rfl,.inl rfl⟩,trivial⟩ (λd hd=>?_) (by decide)) ⟨.inl rfl,ai⟩ ?_
   · obtain⟨j,hj,rfl⟩:=aQ.mp hd
     have hj4:j<4:=bS.mp hj
     exact⟨.inl rfl,Ev.bin (Ev.sub (md:=.any) (Ev.o (DL col) rfl) (Ev.o (.int j) rfl) (aL.list (bQ (Ke hj4 jJ)) (Q0))) (Ev.sub (md:=.any) (Ev.o (DL (eu cells total)) rfl) (Ev.o (.int j) rfl) (aL.list (bQ (Ke hj4 X7)) (Q0))) ak.sub⟩
   rw[yS]
   generalize kJ col (eu cells total)=BA at*
   have el: ∀{σ:Sg} {p1 p2 p3:Pos},σ.get "leads" =some (false,.list (((List.range 6).map (cA bL)).map .ws))->σ.get "k" =some (false,.int i)->Ev C jF [] (k+30) σ (.Subscript (.Name "leads" p1) (.Name "k" p2) p3) .any (.ws (cA bL i)):=λh1 h2=>Ev.sub (Ev.own h1) (Ev.own h2) (gl i qG)
   refine Ex.ite (b:=false) (λaq=>Le (qF cells nums due aj rows words bL total) aq/\ aq.get "k" =some (false,.int i)/\ aq.get "gaps" =some (false,DL BA)) ?_ (λh=>nomatch h) (λ_=>Ex.nil (.inl ⟨rfl,Sub.le ⟨rfl,rfl,rfl,rfl,rfl,rfl,rfl,rfl,rfl,rfl,rfl,rfl,trivial⟩,rfl,rfl⟩)) λaq h=>?_
   · have e1:(dQ (cA bL i) (fO total) !=col.getD (fO total-1).toNat 0)=false:=by rw[Y_];simp
     have e2:(!(((cA bL i).cnt==(dK cells total).cnt&&(cA bL i).trail==(dK cells total).trail)==(BA==[0,0,0,0])))=false:=by rw[heq];simp
     refine Te.or (b₁:=false) (b₂:=false) (Te.val e1 (Te.cmp (iP X.cls X.level (by decide) (el rfl rfl) (Ar.cons (Ev.o (.int (fO total)) rfl) Ar.nil) (vt X.cls X.level (OW hsz.1) (Pc hsz.2) (by have:=yE.1;exact NI this))|>.up (.inl rfl)) (Ev.sub (Ev.o (DL col) rfl) (Ev.bin (Ev.o (.int (fO total)) rfl) Ev.aG ak.sub|>.up (.inl rfl)) (aL.list (bQ (S5 jJ hsz.2)) (Pq hsz.1))) aH.ne)) λ_=>Te.val e2 ?_
     refine Te.cmp (iP X.cls X.equal (by decide) (el rfl rfl) (Ar.cons (Ev.o (.ws (dK cells total)) rfl) Ar.nil) (Fc X.cls X.equal)|>.up (.inl rfl)) (Ev.cmp (Ev.o (DL BA) rfl) (Ev.list (ds:=[.int 0,.int 0,.int 0,.int 0]) (md:=.any) (Ar.cons Ev.aG (Ar.cons Ev.aG (Ar.cons Ev.aG (Ar.cons Ev.aG Ar.nil)))) (by decide)) (aH.HY (l:=BA) (m:=[0,0,0,0]))) aH.dc
   obtain⟨DF,hk2,hg2⟩:=h
   refine Ex.ite (b:=false) (λnP=>Le (qF cells nums due aj rows words bL total) nP) ?_ (λh=>nomatch h) (λ_=>Ex.nil (.inl ⟨rfl,DF⟩)) λnP qT=>Ex.done (.inl ⟨rfl,trivial,qT _ _ _ rfl,qT _ _ _ rfl,qT _ _ _ rfl,qT _ _ _ rfl,qT _ _ _ rfl,qT _ _ _ rfl,qT _ _ _ rfl,qT _ _ _ rfl,qT _ _ _ rfl,qT _ _ _ rfl,qT _ _ _ rfl,qT _ _ _ rfl,trivial⟩)
   have e1:(!(h_ (cA bL i) (dK cells total)==decide (mx<0)))=false:=by rw[hl1];simp
   have e2:(!(h_ (dK cells total) (cA bL i)==decide (0<mn)))=false:=by rw[hl2];simp
   refine Te.or (b₁:=false) (b₂:=false) (Te.val e1 ?_) λ_=>Te.val e2 ?_
   · exact Te.cmp (iP X.cls X.less (by decide) (el (DF _ _ _ rfl) hk2) (Ar.cons (Ev.o (.ws (dK cells total)) (DF _ _ _ rfl)) Ar.nil) (yx X.cls X.less X.long X.level yE F.aw)|>.up (.inl rfl)) (Ev.cmp (Ev.call (ds:=[DL BA]) (aK.blt rfl X.cls.mx) (Ar.cons (Ev.own hg2) Ar.nil) aA.blt (Fn.zD Oh Za)|>.up (.inl rfl)) Ev.aG aH.lt) aH.dc
   · exact Te.cmp (iP X.cls X.less (by decide) (Ev.o (.ws (dK cells total)) (DF _ _ _ rfl)) (Ar.cons (el (DF _ _ _ rfl) hk2) Ar.nil) (yx X.cls X.less X.long X.level F.aw yE)|>.up (.inl rfl)) (Ev.cmp (Ev.call (ds:=[DL BA]) (aK.blt rfl X.min) (Ar.cons (Ev.own hg2) Ar.nil) aA.blt (Fn.zE hmn Zb)|>.up (.inl rfl)) Ev.aG aH.gt) aH.dc
 have xY:=F.nl
 have M_:((List.range 6).map λ(i:Nat)=>D.int i).filterMap (fZ λi=>.int (numberOf Tb (bL.getD i.toNat "") (cA bL i.toNat).n))=nums.map D.int:=by
  have e:((List.range 6).map λ(i:Nat)=>D.int i)=((List.range 6).map λ(i:Nat)=>(i:Int)).map D.int:=by rw[cN];rfl
  rw[e,dO,map_range D.int nums 0 xY,cN]
  apply List.map_congr_left
  intro i hi
  have:=F.told i (bS.mp hi)
  show D.int (numberOf Tb (bL.getD (i:Int).toNat "") (cA bL (i:Int).toNat).n)=_
  simp only[Int.toNat_natCast,this]
 have Zc: ∀i:Nat,i<6->(bL.getD i "").length<=1000:=λi hi=>by
  rw[F.pg,yR _ _ _ hi,gH,gH]
  have EG:=sM (F.rr i hi).1 (show 0<=total.fmod 3/\ total.fmod 3<=3 by exact Q89 h3.1 h3.2)
  have:=(F.rr i hi).2
  have hw:(words.getD i "").length<=10:=by
   refine F.Od _ ?_
   rw[bM,cE (by rw[F.wl];exact hi)]
   exact jy _
  have Og:(Str.ofString "x").length=1:=by decide
  exact Wu Og EG hw this
 refine bq.gv (items:=(List.range 6).map λ(i:Nat)=>D.int i) (g:=fZ λi=>.int (numberOf Tb (bL.getD i.toNat "") (cA bL i.toNat).n)) false (cC.name rI (λd hd=>by obtain⟨i,_,rfl⟩:=aQ.mp hd;rfl) ⟨⟨_,_,rfl,.inl rfl⟩,⟨_,_,rfl,.inl rfl⟩,trivial⟩ (λd hd=>?_) (by decide)) ⟨.inl rfl,ai⟩ ?_
 · obtain⟨i,hi,rfl⟩:=aQ.mp hd
   have qG:i<6:=bS.mp hi
   exact⟨.inl rfl,Ev.call (ds:=[.str (bL.getD i ""),.int (cA bL i).n]) (aK.glob rfl X.number.1) (Ar.cons (Ev.sub (md:=.any) (Ev.o (.list (bL.map D.str)) rfl) (Ev.o (.int i) rfl) (gpg i qG)) (Ar.cons (Ev.X0 (md:=.any) X.cls.hK X.cls.cls.toWsK (Ev.sub (md:=.any) (Ev.o (.list (((List.range 6).map (cA bL)).map .ws)) rfl) (Ev.o (.int i) rfl) (gl i qG))) Ar.nil)) (aA.fn X.number.2) (wX X.number X.By X.tab X.Jh (Zc i qG))⟩
 rw[M_]
 have hh:Fn C (k+30) (.ref a.nF) [.list (((List.range 6).map (cA bL)).map .ws)] (DL due):=by
  rw[<-F.nF]
  have Zd:((List.range 6).map (cA bL)).length=6:=rfl
  have:=Io (C:=C) (k:=k+27) (cu:=(List.range 6).map (cA bL)) X.cls X.nF X.less X.long X.level (λw hw=>by
   obtain⟨i,hi,rfl⟩:=aQ.mp hw
   exact F.lw i (bS.mp hi)) (by rw[Zd];decide) (by rw[Zd];decide)
  rw[Zd] at this
  exact this
 refine bq.iG (f:=false) (d:=DL due) (aP.fresh (Ev.call (aK.glob rfl X.nF.1) (Ar.cons (Ev.o (.list (((List.range 6).map (cA bL)).map .ws)) rfl) Ar.nil) (aA.fn X.nF.2) hh)) ⟨.inl rfl,ai⟩ ?_
 refine bq.pass ?_ (bq.weak (τ:=Jj aj words nums due total) (Sub.le ⟨rfl,rfl,rfl,rfl,rfl,trivial⟩) hn)
 have e1:(!(due==due))=false:=by simp
 have e2:(!(nums==nums))=false:=by simp
 exact Te.or (b₁:=false) (b₂:=false) (Te.val e1 (Te.cmp (Ev.o (DL due) rfl) (Ev.o (DL due) rfl) aH.rY)) λ_=>Te.val e2 (Te.cmp (Ev.o (DL nums) rfl) (Ev.o (DL nums) rfl) aH.rY)
end
noncomputable def jc:List Int:=[1620,7320,61,2881,9120,3421]
noncomputable def cellsOf(s:List Int):List Int:=jc.zipIdx.map λp=>p.1+(pick s (some (p.2:Int)) none (some 6)).sum
noncomputable def oQ(ds:List Int)(c:Int):List Int:=ds++[1+c.fmod (ds.getD (ds.length-1) 0+1)]
noncomputable def iI(l:List Int):List Int:=l.foldl oQ [0]
noncomputable def dS(cells:List Int):List Int:=iI (pick cells (some 1) none none)
noncomputable def numsOf(cells:List Int):List Int:=cells.map λc=>7+(c.fdiv 60).fmod 48
noncomputable def xA(dp:List Int)(k:Nat):List Int:=((List.range k).filter λj=>decide (dp.getD j 0<dp.getD k 0)).map Int.ofNat
noncomputable def xB(dp:List Int)(k:Nat):Int:=(xA dp k).foldl max (-1)
noncomputable def a_(dp:List Int):List Int:=(List.range 6).map (xB dp)
noncomputable def rj(cells due:List Int)(rs:List (List Int))(k:Nat):List (List Int):=rs++[rs.getD (due.getD k 0).toNat []++[((cells.getD k 0).fdiv 2880).fmod 4]]
noncomputable def kK(cells due:List Int)(l:List Nat):List (List Int):=l.foldl (rj cells due) [[]]
noncomputable def rowsOf(cells due:List Int):List (List Int):=kK cells due [1,2,3,4,5]
theorem qH(s:List Int):(cellsOf s).length=6:=by unfold cellsOf;simp[jc]
theorem lN(l:List Int)(c:Int):iI (l++[c])=oQ (iI l) c:=by unfold iI;rw[eE];rfl
theorem sO(l:List Int):(iI l).length=l.length+1:=by
 generalize hn:l.length=m
 induction m generalizing l with
 |zero=>rw[gh hn];rfl
 |succ m ih=>
  obtain⟨l',c,rfl⟩: ∃l' c,l=l'++[c]:=⟨l.dropLast,l.getLast (by intro e;rw[e] at hn;cases hn),(iV _).symm⟩
  rw[lN]
  unfold oQ
  rw[cF,ih l' (by simpa using hn)];rfl
theorem mL: ∀(l:List Int) (a:Int),l.foldl max a∈a::l/\ ∀x∈a::l,x<=l.foldl max a
 |[],a=>⟨.head _,λx h=>by rw[ay.mp h];exact cO _⟩
 |b::l,a=>by
  obtain⟨h1,h2⟩:=mL l (max a b)
  show l.foldl max (max a b)∈a::b::l/\ ∀x∈a::b::l,x<=l.foldl max (max a b)
  constructor
  · rcases aB.mp h1 with h|h
    · rw[h]
      by_cases q:a<=b
      · rw[show max a b=b by lia];exact .tail _ (.head _)
      · rw[show max a b=a by exact Sh q];exact .head _
    · exact .tail _ (.tail _ h)
  · intro x hx
    have hm:=h2 (max a b) (.head _)
    rcases aB.mp hx with rfl|hx
    · omega
    · rcases aB.mp hx with rfl|hx
      · omega
      · exact h2 x (.tail _ hx)
theorem qI(cells due:List Int)(l:List Nat)(k:Nat):kK cells due (l++[k])=rj cells due (kK cells due l) k:=by unfold kK;rw[eE];rfl
theorem yT(cells due:List Int)(l:List Nat):(kK cells due l).length=l.length+1:=by
 generalize hn:l.length=m
 induction m generalizing l with
 |zero=>rw[gh hn];rfl
 |succ m ih=>
  obtain⟨l',c,rfl⟩: ∃l' c,l=l'++[c]:=⟨l.dropLast,l.getLast (by intro e;rw[e] at hn;cases hn),(iV _).symm⟩
  rw[qI]
  unfold rj
  simp only[cF,ih l' (by simpa using hn)];rfl
noncomputable def Hu(s:List Int):D->Option D
 | .tup [.int k,.int c]=>some (.int (c+(pick s (some k) none (some 6)).sum))
 |_=>none
theorem BB(s:List Int):((ou (jc.map D.int)).map λp=>D.tup [p.1,p.2]).filterMap (Hu s)=(cellsOf s).map D.int:=rfl
noncomputable def Na(dp:List Int)(k:Nat):D->Option D
 | .int j=>if dp.getD j.toNat 0<dp.getD k 0 then some (.int j) else none
 |_=>none
theorem zZ(dp:List Int)(k:Nat): ∀l:List Nat,(l.map λ(i:Nat)=>D.int i).filterMap (Na dp k)=((l.filter λj=>decide (dp.getD j 0<dp.getD k 0)).map Int.ofNat).map D.int
 |[]=>rfl
 |i::l=>by
  have ih:=zZ dp k l
  rw[bN,gG,ko]
  have e:Na dp k (D.int i)=if dp.getD i 0<dp.getD k 0 then some (D.int i) else none:=rfl
  rw[e]
  by_cases h:dp.getD i 0<dp.getD k 0
  · rw[af h,af (decide_eq_true h),bN,bN,<-ih];rfl
  · rw[aa h,aa (by simpa using h),<-ih]
structure AFx(s cells nums due aj:List Int)(rows:List (List Int)):Prop where
 ce:cells=cellsOf s
 de:aj=dS cells
 nu:nums=numsOf cells
 du:due=a_ aj
 ro:rows=rowsOf cells due
 dlt: ∀k,1<=k->k<6->0<=due.getD k 0/\ due.getD k 0<k
 BC:aj.length=6
theorem BD(dp:List Int)(k:Nat):xB dp k∈ -1::xA dp k/\ ∀x∈ -1::xA dp k,x<=xB dp k:=mL _ _
noncomputable def Jm(cells aj:List Int)(total:Int)(s:List Int):Sg:=[("script",false,DL s),("cells",false,DL cells),("total",false,.int total),("depths",true,DL aj)]
noncomputable def DG(cells aj nums due:List Int)(words:List Str)(total:Int)(rows:List (List Int)):Sg:=[("cells",false,DL cells),("total",false,.int total),("depths",false,DL aj),("numbers",false,DL nums),("words",false,.list (words.map .str)),("due",false,DL due),("rows",true,DC rows)]
section
variable{C:Cx}{T:jL}{K:Frag}{Tb:List (PyData×PyData)}{a:Dy}{k:Nat}
theorem Nb(X:mJ C T K Tb a){s cells nums due aj:List Int}{rows:List (List Int)}{P:Sg->Fl->Prop}(F:AFx s cells nums due aj rows)
 (hn:bq C T jF [] (k+30) (DE cells nums due aj rows (nums.map wordOf) cells.sum) (execs (vK 9)) P):bq C T jF [] (k+30) [("script",false,DL s)] (execs (vK 0)) P:=by
 have aF:sizeLine=16777216:=rfl
 have jJ:cells.length=6:=by rw[F.ce,qH]
 have YH:(cells.map D.int).length=6:=by rw[aM,jJ]
 refine bq.gv (items:=(ou (jc.map D.int)).map λp=>D.tup [p.1,p.2]) (g:=Hu s) false (cC.pair (items:=ou (jc.map D.int)) (aN.call (ds:=[DL jc]) (aK.blt rfl X.enum) (Ar.cons (Ev.list (ds:=jc.map D.int) (Ar.cons Ev.aG (Ar.cons Ev.aG (Ar.cons Ev.aG (Ar.cons Ev.aG (Ar.cons Ev.aG (Ar.cons Ev.aG Ar.nil)))))) (by decide)) Ar.nil) aA.typ (ee.Cn (bA _))) (λp hp=>wL (bA _) p hp) ?_ (λp hp=>?_) (by decide) (by decide)) ⟨.inl rfl,ai⟩ ?_
 · exact⟨⟨_,_,rfl,.inl rfl⟩,trivial⟩
 · obtain⟨i,hi⟩:=rG.mp hp
   obtain⟨d,hd,rfl⟩:=pV hi
   rw[cM] at hd
   obtain⟨c,hc,rfl⟩:=pL.mp hd
   refine⟨.inl rfl,Ev.bin (Ev.o (.int c) rfl) (Ev.call (ds:=[DL (pick s (some (i:Int)) none (some 6))]) (aK.blt rfl X.sum) (Ar.cons ?_ Ar.nil) aA.blt Fn.sum|>.up (.inl rfl)) ak.add⟩
   show Ev _ _ _ _ _ _ _ (.list ((pick s (some (i:Int)) none (some 6)).map D.int))
   rw[<-oO]
   exact Ev.up (Ev.jR (Ev.o (DL s) rfl) (bA _) (show cI _ _ _ _ _ (some _) (some (i:Int)) from Ev.o _ rfl) trivial (show cI _ _ _ _ _ (some _) (some 6) from Ev.aG) (by decide)) (.inr rfl)
 rw[BB,<-F.ce]
 refine bq.iG (d:=.int cells.sum) (aP.jg (md:=.fresh) (Ev.call (ds:=[DL cells]) (aK.blt rfl X.sum) (Ar.cons (Ev.o _ rfl) Ar.nil) aA.blt Fn.sum) rfl) ⟨.inr rfl,ai⟩ ?_
 refine bq.iG (aP.own (Ev.list (ds:=[.int 0]) (md:=.fresh) (Ar.cons Ev.aG Ar.nil) (by decide))) ⟨.inr rfl,ai⟩ ?_
 have Oi:(pick cells (some 1) none none).length+1=aj.length:=by rw[F.de];unfold dS;rw[sO]
 refine bq.ex (R:=Le (Jm cells (dS cells) cells.sum s)) (cH.jV (items:=pick cells (some 1) none none) D.int (λdone=>Jm cells (iI done) cells.sum s) (λdone=>0<=(iI done).getD done.length 0) (Le (Jm cells (dS cells) cells.sum s)) (aN.list (by
  rw[<-oO]
  exact Ev.rL (Ev.jR (Ev.o (DL cells) rfl) (bA _) (show cI _ _ _ _ _ (some _) (some 1) from Ev.aG) trivial trivial (by decide))) (bA _)) (λ_ _=>rfl) ⟨.inl rfl,ai⟩ ⟨rfl,rfl,rfl,rfl,trivial⟩ (by decide) ?_ (λ_ aq h=>h) λaq h=>.inl ⟨rfl,h⟩) λaq hle=>bq.weak hle ?_
 · intro done c left hi jW
   have mq:=sO done
   have MY:done.length<6:=by
    have:=congrArg List.length hi
    simp at this
    have:=F.BC
    exact Vl Oi (by assumption) this
   rw[lN]
   unfold oQ
   rw[mq]
   generalize iI done=ds at*
   have he1:done.length+1-1=done.length:=PM
   rw[he1]
   have hg:aL C (k+30) (DL ds) (.int (-1)) (.int (ds.getD done.length 0)):=aL.qY (j:=done.length) (bQ (Qg mq)) (.inr (by simp only[aM,mq];exact S6))
   have hnz:(ds.getD done.length 0+1==0)=false:=by rw[beq_eq_false_iff_ne];exact Pu jW
   refine Ex.push (x:="depths") (ds:=ds.map D.int) (md:=.fresh) (d:=.int (1+c.fmod (ds.getD done.length 0+1))) rfl (Ev.bin Ev.aG (Ev.bin (Ev.o (.int c) rfl) (Ev.bin (Ev.sub (md:=.any) (Ev.p (DL ds) rfl) (Ev.un Ev.aG iE.neg|>.up (.inl rfl)) hg) Ev.aG ak.add|>.up (.inl rfl)) (ak.fmod hnz)|>.up (.inl rfl)) ak.add) (.inl rfl) (by rw[aM];exact UM MY mq aF) (Ex.done (.inl ⟨rfl,?_,rfl,rfl,rfl,?_,trivial⟩))
   · have:=iw c (show 0<ds.getD done.length 0+1 by exact Oz jW)
     have e:(ds++[1+c.fmod (ds.getD done.length 0+1)]).getD (done++[c]).length 0=1+c.fmod (ds.getD done.length 0+1):=by
      rw[bM,cF,pI,<-mq,List.getElem?_concat_length];rfl
     rw[e];exact ZU this
   · show some (true,D.list (ds.map D.int++[D.int _]))=some (true,D.list ((ds++[_]).map D.int))
     rw[dN];rfl
 rw[<-F.de]
 refine bq.freeze (x:="depths") (d:=DL aj) rfl ?_
 have MZ: ∀n∈nums,7<=n/\ n<=54:=λn hn=>by
  rw[F.nu] at hn
  obtain⟨c,_,rfl⟩:=aQ.mp hn
  have:=jb (c.fdiv 60) (show(0:Int)<48 by decide)
  show 7<=7+(c.fdiv 60).fmod 48/\ 7+(c.fdiv 60).fmod 48<=54
  exact Kh this.1 this.2
 have xY:nums.length=6:=by rw[F.nu];unfold numsOf;simp only[aM,jJ]
 refine bq.gv (items:=cells.map D.int) (g:=fZ λc=>.int (7+(c.fdiv 60).fmod 48)) false (cC.name (aN.list (Ev.name rfl) (bA _)) (bA _) trivial (λd hd=>?_) (Q93 aF YH)) ⟨.inl rfl,ai⟩ ?_
 · obtain⟨c,_,rfl⟩:=aQ.mp hd
   exact⟨.inl rfl,Ev.bin Ev.aG (Ev.bin (Ev.bin (Ev.o (.int c) rfl) Ev.aG (ak.fdiv (by decide) (iX (by decide)))|>.up (.inl rfl)) Ev.aG (ak.fmod (by decide))|>.up (.inl rfl)) ak.add⟩
 have e1:(cells.map D.int).filterMap (fZ λc=>.int (7+(c.fdiv 60).fmod 48))=nums.map D.int:=by simp only[dO,F.nu];unfold numsOf;rw[cN];rfl
 rw[e1]
 refine bq.iG (f:=false) (d:=.list ((nums.map wordOf).map D.str)) (aP.fresh (Ev.call (ds:=[DL nums]) (aK.glob rfl X.words.1) (Ar.cons (Ev.o _ rfl) Ar.nil) (aA.fn X.words.2) (Fj X.words MZ (Pd xY)))) ⟨.inr rfl,ai⟩ ?_
 have qt:(aj.map D.int).length=6:=by rw[aM,F.BC]
 refine bq.Ds (kx:="k") (items:=(List.range 6).map λ(i:Nat)=>D.int i) (g:=fZ λi=>.int (xB aj i.toNat)) false (oN.name (aN.call (ds:=[.int 6]) (aK.blt rfl X.cls.vq) (Ar.cons Ev.aG Ar.nil) aA.typ (ee.jo (b:=6) (by decide) (by decide))) (λd hd=>by obtain⟨i,_,rfl⟩:=aQ.mp hd;rfl) ?_ (λd hd=>?_) (by decide) rfl (by decide) rfl (λ_ _=>rfl) (λ_=>rfl) (by decide) (by decide) rfl) ⟨.inl rfl,ai⟩ ?_
 · exact⟨⟨_,_,rfl,.inl rfl⟩,trivial⟩
 · obtain⟨i,hi,rfl⟩:=aQ.mp hd
   have qG:i<6:=bS.mp hi
   obtain⟨m1,m2⟩:=BD aj i
   refine⟨.inl rfl,Ev.call (ds:=[DL (-1::xA aj i)]) (aK.blt rfl X.cls.mx) (Ar.cons ?_ Ar.nil) aA.blt (Fn.zD m1 m2)⟩
   show Ev _ _ _ _ _ _ _ (.list ([.int (-1)]++(xA aj i).map D.int))
   have EG:((xA aj i).map D.int).length<=6:=by
    unfold xA
    simp only[aM,aM]
    refine aX (List.length_filter_le _ _) ?_
    rw[List.length_range];exact OX qG
   refine Ev.up (md:=.fresh) (Ev.bin (Ev.list (ds:=[.int (-1)]) (md:=.any) (Ar.cons (Ev.un Ev.aG iE.neg|>.up (.inl rfl)) Ar.nil) (by decide)) (Ev.val (d:=.list (((List.range i).map λ(j:Nat)=>D.int j).filterMap (Na aj i))) (by rw[zZ];rfl) (Ev.up (md:=.fresh) (Ev.comp (cC.name (items:=(List.range i).map λ(j:Nat)=>D.int j) (g:=Na aj i) (aN.call (ds:=[.int i]) (aK.blt rfl X.cls.vq) (Ar.cons (Ev.name (d:=.int i) rfl) Ar.nil) aA.typ (by
    have:=ee.jo (C:=C) (k:=k+30) (b:=(i:Int)) (QK qG) (Z7)
    rw[Int.toNat_natCast] at this
    exact this)) (λd hd=>by obtain⟨i,_,rfl⟩:=aQ.mp hd;rfl) ?_ (λd hd=>?_) (by simp only[aM,List.length_range];exact RI qG aF))) (.inr rfl))) (ak.nZ (ds:=[.int (-1)]) (es:=(xA aj i).map D.int) ?_ ?_)) (.inr rfl)
   · exact⟨⟨_,_,rfl,.inl rfl⟩,⟨_,_,rfl,.inl rfl⟩,trivial⟩
   · obtain⟨j,hj,rfl⟩:=aQ.mp hd
     have Hv:j<i:=bS.mp hj
     have e:Na aj i (D.int j)=if aj.getD j 0<aj.getD i 0 then some (D.int j) else none:=rfl
     rw[e]
     by_cases h:aj.getD j 0<aj.getD i 0
     · rw[af h]
       refine⟨.inr ⟨_,rfl,Te.val (decide_eq_true h) ?_⟩,Ev.o (.int j) rfl|>.up (.inl rfl)⟩
       exact Te.cmp (Ev.sub (md:=.any) (Ev.o (DL aj) rfl) (Ev.o (.int j) rfl) (aL.list (bQ (by have:=F.BC;exact Ky qG Hv this)) (Q0))) (Ev.sub (md:=.any) (Ev.o (DL aj) rfl) (Ev.o (.int i) rfl) (aL.list (bQ (by have:=F.BC;exact OM qG this)) (Q0))) aH.lt
     · rw[aa h]
       refine⟨_,rfl,Te.val (decide_eq_false h) ?_⟩
       exact Te.cmp (Ev.sub (md:=.any) (Ev.o (DL aj) rfl) (Ev.o (.int j) rfl) (aL.list (bQ (by have:=F.BC;exact Ky qG Hv this)) (Q0))) (Ev.sub (md:=.any) (Ev.o (DL aj) rfl) (Ev.o (.int i) rfl) (aL.list (bQ (by have:=F.BC;exact OM qG this)) (Q0))) aH.lt
   · intro d hd
     rcases bB.mp hd with hd|hd
     · rw[ay.mp hd];rfl
     · exact bA _ d hd
   · show 1+_<=_
     exact SN aF EG
 have e2:((List.range 6).map λ(i:Nat)=>D.int i).filterMap (fZ λi=>.int (xB aj i.toNat))=due.map D.int:=by
  have e:((List.range 6).map λ(i:Nat)=>D.int i)=((List.range 6).map λ(i:Nat)=>(i:Int)).map D.int:=by rw[cN];rfl
  simp only[e,dO,F.du]
  unfold a_
  simp only[cN,cN];rfl
 rw[e2]
 have mq:due.length=6:=by rw[F.du];unfold a_;simp
 refine bq.iG (f:=true) (d:=.list [.list []]) (aP.own (Ev.list (ds:=[.list []]) (md:=.fresh) (Ar.cons (Ev.list (ds:=[]) Ar.nil (by decide)) Ar.nil) (cB rfl))) ⟨.inr rfl,ai⟩ ?_
 have MB:kK cells due [1,2,3,4,5]=rows:=F.ro.symm
 refine bq.ex (R:=Le (DG cells aj nums due (nums.map wordOf) cells.sum rows)) (cH.jV (items:=[1,2,3,4,5]) (λ(i:Nat)=>D.int i) (λdone=>DG cells aj nums due (nums.map wordOf) cells.sum (kK cells due done)) (λdone=>∀r∈kK cells due done,r.length<=done.length) (Le (DG cells aj nums due (nums.map wordOf) cells.sum rows)) (aN.call (ds:=[.int 1,.int 6]) (aK.blt rfl X.cls.vq) (Ar.cons Ev.aG (Ar.cons Ev.aG Ar.nil)) aA.typ (ee.lY (a:=1) (b:=6) (by decide) (by decide))) (λ_ _=>rfl) ⟨.inl rfl,ai⟩ ⟨rfl,rfl,rfl,rfl,rfl,rfl,rfl,trivial⟩ (λr hr=>by rw[ay.mp hr];exact aR _) ?_ (λ_ aq h=>MB▸h) λaq h=>.inl ⟨rfl,h⟩) λaq hle=>bq.weak hle ?_
 · intro done i left hi jW
   have we:i=done.length+1/\ done.length<5:=by
    have h1:(done++i::left)[done.length]? =some i:=by simp
    rw[<-hi] at h1
    have hl:=congrArg List.length hi
    simp at hl
    have Ze:done.length<5:=QB hl
    refine⟨?_,Ze⟩
    have:([1,2,3,4,5]:List Nat)[done.length]? =some (done.length+1):=by
     generalize done.length=q at Ze
     exact(nJ rfl (nJ rfl (nJ rfl (nJ rfl (nJ rfl JY)))): ∀q,q<5->([1,2,3,4,5]:List Nat)[q]? =some (q+1)) q Ze
    rw[this] at h1
    exact(Option.some.inj h1).symm
   obtain⟨d1,d2⟩:=F.dlt i (PV we.1) (Rf we.2 we.1)
   have JO:=yT cells due done
   rw[qI]
   unfold rj
   generalize kK cells due done=rs at*
   have gd:aL C (k+30) (DL due) (.int i) (.int (due.getD i 0)):=aL.list (bQ (KD we.2 we.1 mq)) (Q0)
   have gc:aL C (k+30) (DL cells) (.int i) (.int (cells.getD i 0)):=aL.list (bQ (KD we.2 we.1 jJ)) (Q0)
   generalize due.getD i 0=u at*
   have gr:aL C (k+30) (DC rs) (.int u) (DL (rs.getD u.toNat [])):=aL.list (by
    have hu:u.toNat<rs.length:=KL JO we.1 d2
    show(rs.map DL)[u.toNat]? =_
    rw[cM,cE hu,bM,cE hu];rfl) d1
   have hrm:(rs.getD u.toNat []).length<=done.length:=by
    have hu:u.toNat<rs.length:=KL JO we.1 d2
    rw[bM,cE hu]
    exact jW _ (jy _)
   generalize rs.getD u.toNat []=Nc at*
   refine Ex.push (x:="rows") (ds:=rs.map DL) (md:=.fresh) (d:=DL (Nc++[((cells.getD i 0).fdiv 2880).fmod 4])) rfl (Ev.val (d:=.list (Nc.map D.int++[.int (((cells.getD i 0).fdiv 2880).fmod 4)])) ?_ (Ev.bin (Ev.sub (Ev.p (DC rs) rfl) (Ev.sub (md:=.any) (Ev.o (DL due) rfl) (Ev.o (.int i) rfl) gd) gr) (Ev.list (ds:=[.int (((cells.getD i 0).fdiv 2880).fmod 4)]) (md:=.any) (Ar.cons (Ev.bin (Ev.bin (Ev.sub (md:=.any) (Ev.o (DL cells) rfl) (Ev.o (.int i) rfl) gc) Ev.aG (ak.fdiv (by decide) (iX (by decide)))|>.up (.inl rfl)) Ev.aG (ak.fmod (by decide))|>.up (.inl rfl)) Ar.nil) (cB rfl)) (ak.nZ (ds:=Nc.map D.int) (es:=[.int (((cells.getD i 0).fdiv 2880).fmod 4)]) ?_ ?_))) (.inr (.inr rfl)) (by rw[aM];exact UN we.2 JO aF) (Ex.done (.inl ⟨rfl,?_,rfl,rfl,rfl,rfl,rfl,rfl,?_,trivial⟩))
   · show D.list _=D.list ((Nc++[_]).map D.int)
     rw[dN];rfl
   · intro d hd
     rcases bB.mp hd with hd|hd
     · exact bA _ d hd
     · rw[ay.mp hd];rfl
   · rw[aM]
     show Nc.length+1<=_
     exact UO we.2 aF hrm
   · intro r hr
     rcases bB.mp hr with hr|hr
     · have:=jW r hr
       rw[cF];exact QC this
     · simp only[ay.mp hr,cF,cF]
       simp;exact ZV hrm
   · show some (true,D.list (rs.map DL++[DL _]))=some (true,D.list ((rs++[_]).map DL))
     rw[dN];rfl
 refine bq.freeze (x:="rows") (d:=DC rows) rfl ?_
 exact bq.weak (τ:=DE cells nums due aj rows (nums.map wordOf) cells.sum) (Sub.le ⟨rfl,rfl,rfl,rfl,rfl,rfl,rfl,trivial⟩) hn
end
structure Hw(Tb:List (PyData×PyData))(s cells nums due aj:List Int)(rows:List (List Int))(bL:List Str)(en:Nat->Nat)(text word:Str)(Ho at2:Int):Prop where
 A:AFx s cells nums due aj rows
 B:Of Tb cells nums due rows (nums.map wordOf) bL cells.sum
 C:Y6 Tb aj (nums.map wordOf) nums en text word
 D1:JN nums due (gx (sizesOf word en) nums (tM cells.sum)) (lM cells.sum) (tM cells.sum) (nums.getD 0 0-30) Ho
 D2:JN nums due (gx (sizesOf word en) nums (tM cells.sum)) (lM cells.sum) (tM cells.sum) 0 at2
 ov: ∀j,j<6->dB (due.getD j 0) 6<6/\ dB (due.getD j 0) 6≠j/\ (due.getD j 0=dB (due.getD j 0) 6 \/due.getD j 0=(dB (due.getD j 0) 6:Int)-6)
theorem Nd{C:Cx}{T:jL}{K:Frag}{Tb:List (PyData×PyData)}{a:Dy}{k:Nat}{f c:Addr}(hf:oH C f (dI (bW 79)) (pX (bW 79)) (fBody (bW 79)) (fScope (bW 79)) c)(X:mJ C T K Tb a){s cells nums due aj:List Int}{rows:List (List Int)}{bL:List Str}{en:Nat->Nat}{text word:Str}{Ho at2:Int}
 (F:Hw Tb s cells nums due aj rows bL en text word Ho at2):qR C T (k+31) (.ref f) [DL s] (.bool true):=by
 refine qR.cells hf ?_ rfl (by decide) ?_ ?_ rfl ?_ rfl rfl rfl
 · intro pm cd doc vs hl
   obtain⟨v,rfl⟩:=tB hl
   rfl
 · decide
 · decide
 · exact Nb X F.A (Jk X F.B (Jl X F.B (M8 X F.C (M0 X.M3 (qg _) (yQ _) F.B.nl F.B.dl F.ov F.C.nb F.D1 F.D2 λ_=>rfl))))
end Mine
end
section
namespace Mine
noncomputable abbrev Sq:=Nat->Int
noncomputable def jG(g:Sq):Sq
 |0=>0
 |k+1=>g k
noncomputable def nk(g:Sq)(k:Nat):Int:=g k*g k-jG g k*g (k+1)
noncomputable def mh(f b:Sq)(k:Nat):Int:=f (k+1)*b k-f k*b (k+1)
noncomputable def low(g:Sq)(k:Nat):Prop:=∀j,j<=k->g j=0
noncomputable def cy(a c:Int)(g:Sq):Sq:=λk=>a*jG g k+c*g k
structure dU(T:Sq->Sq):Prop where
 add: ∀f g,T (λk=>f k+g k)=λk=>T f k+T g k
 smul: ∀(a:Int) f,T (λk=>a*f k)=λk=>a*T f k
 jG: ∀f,T (jG f)=Mine.jG (T f)
theorem z_(f g:Sq):jG (λk=>f k+g k)=λk=>jG f k+jG g k:=funext λk=>match k with|0=>rfl|_+1=>rfl
theorem sP(a:Int)(f:Sq):jG (λk=>a*f k)=λk=>a*jG f k:=funext λk=>match k with|0=>(e_ a).symm|_+1=>rfl
theorem dU.id:dU λg=>g:=⟨λ_ _=>rfl,λ_ _=>rfl,λ_=>rfl⟩
theorem dU.zero:dU λ_ _=>0:=⟨λ_ _=>rfl,λa _=>funext λ_=>(e_ a).symm,λ_=>funext λk=>match k with|0=>rfl|_+1=>rfl⟩
theorem dU.comp{S T:Sq->Sq}(s:dU S)(t:dU T):dU λg=>S (T g):=⟨λf g=>by rw[t.add,s.add],λa f=>by rw[t.smul,s.smul],λf=>by rw[t.jG,s.jG]⟩
theorem dU.sum{S T:Sq->Sq}(s:dU S)(t:dU T)(a b:Int):dU λg k=>a*S g k+b*T g k:=
 ⟨λf g=>funext λk=>by rw[s.add,t.add];simp only[Int.mul_add];exact VA,λc f=>funext λk=>by rw[s.smul,t.smul,Int.mul_add,Int.mul_left_comm a c,Int.mul_left_comm b c],
   λf=>by rw[s.jG,t.jG,z_ (λk=>a*S f k) (λk=>b*T f k),sP,sP]⟩
theorem Nf:dU jG:=⟨z_,sP,λ_=>rfl⟩
theorem dU.cy(a c:Int):dU (cy a c):=dU.sum Nf dU.id a c
theorem dU.uv{T:Sq->Sq}(t:dU T)(a c:Int)(g:Sq):T (Mine.cy a c g)=Mine.cy a c (T g):=by
 have e:Mine.cy a c g=λk=>a*Mine.jG g k+c*g k:=rfl
 rw[e,t.add,t.smul,t.smul,t.jG];rfl
inductive Fo where
 |nil
 |node (w:Int) (c s:Fo)
noncomputable def Fo.size:Fo->Nat
 | .nil=>0
 | .node _ c s=>c.size+s.size+1
noncomputable def up1(p:Int)(x:Sq×Sq):Sq:=λk=>1*cy 1 p x.1 k+ -1*x.2 k
noncomputable def PD(p:Int):Fo->Sq->Sq×Sq
 | .nil,g=>(g,λ_=>0)
 | .node w c s,g=>(up1 p (PD p c (PD p s g).1),λk=>w*(PD p c (PD p s g).1).1 k+1*up1 p (PD p c (PD p s g).2) k)
theorem Aa(p:Int): ∀φ:Fo,dU (λg=>(PD p φ g).1)/\ dU (λg=>(PD p φ g).2)
 | .nil=>⟨dU.id,dU.zero⟩
 | .node w c s=>by
  obtain⟨c1,c2⟩:=Aa p c
  obtain⟨s1,s2⟩:=Aa p s
  have u:dU λg=>up1 p (PD p c g):=dU.sum ((dU.cy 1 p).comp c1) c2 1 (-1)
  exact⟨u.comp s1,dU.sum (c1.comp s1) (u.comp s2) w 1⟩
noncomputable abbrev TP(p:Int)(c:Fo):Sq->Sq:=λg=>up1 p (PD p c g)
theorem Ab(p:Int)(c:Fo):dU (TP p c):=dU.sum ((dU.cy 1 p).comp (Aa p c).1) (Aa p c).2 1 (-1)
theorem dU.DH{T:Sq->Sq}(t:dU T)(p:Int): ∀(φ:Fo) (g:Sq),PD p φ (T g)=(T (PD p φ g).1,T (PD p φ g).2)
 | .nil,g=>by
  have:T (λ_=>0)=λ_=>0:=by
   have:=t.smul 0 (λ_=>0)
   simpa using this
  show(T g,λ_=>0)=(T g,T λ_=>0)
  rw[this]
 | .node w c s,g=>by
  have up: ∀x:Sq×Sq,up1 p (T x.1,T x.2)=T (up1 p x):=λx=>by
   have e:up1 p x=λk=>1*Mine.cy 1 p x.1 k+ -1*x.2 k:=rfl
   rw[e,t.add,t.smul,t.smul,t.uv];rfl
  have e1:PD p s (T g)=_:=dU.DH t p s g
  have e2:=λg=>dU.DH t p c g
  show(up1 p (PD p c (PD p s (T g)).1),λk=>w*(PD p c (PD p s (T g)).1).1 k+1*up1 p (PD p c (PD p s (T g)).2) k)=(T (up1 p (PD p c (PD p s g).1)),T λk=>w*(PD p c (PD p s g).1).1 k+1*up1 p (PD p c (PD p s g).2) k)
  rw[e1]
  simp only[e2,up,t.add,t.smul]
theorem DI(p:Int)(φ:Fo)(a c:Int)(g:Sq):(PD p φ (cy a c g)).1=cy a c (PD p φ g).1/\ (PD p φ (cy a c g)).2=cy a c (PD p φ g).2:=by
 rw[(dU.cy a c).DH];exact⟨rfl,rfl⟩
theorem DJ(p:Int)(b D:Sq)(k:Nat):mh (up1 p (b,D)) b k=nk b k+mh b D k:=by
 show(1*(1*b k+p*b (k+1))+ -1*D (k+1))*b k-(1*(1*jG b k+p*b k)+ -1*D k)*b (k+1)=(b k*b k-jG b k*b (k+1))+(b (k+1)*D k-b k*D (k+1))
 generalize b k=x
 generalize b (k+1)=y
 generalize jG b k=z
 generalize D k=u
 generalize D (k+1)=v
 grind
theorem Ad(w:Int)(b x y:Sq)(k:Nat):mh b (λk=>w*x k+1*y k) k=w*mh b x k+mh b y k:=by
 show b (k+1)*(w*x k+1*y k)-b k*(w*x (k+1)+1*y (k+1))=w*(b (k+1)*x k-b k*x (k+1))+(b (k+1)*y k-b k*y (k+1))
 generalize b k=b0
 generalize b (k+1)=b1
 generalize x k=x0
 generalize x (k+1)=x1
 generalize y k=y0
 generalize y (k+1)=y1
 grind
theorem low.jG{b:Sq}{k:Nat}(h:low b k):jG b k=0:=match k,h with
 |0,_=>rfl
 |k+1,h=>h k (Nat.le_succ k)
theorem low.le{b:Sq}{k j:Nat}(h:low b k)(hj:j<=k):low b j:=λi hi=>h i (aX hi hj)
theorem low.succ{b:Sq}{k:Nat}(h:low b k)(e:b (k+1)=0):low b (k+1):=λi hi=>(pK hi).elim (λq=>h i (Nat.le_of_lt_succ q)) λq=>q▸e
noncomputable def Rel(b D:Sq):Prop:=(∀k,0<=mh b D k)/\ ∀k,low b (k+1)->D k=0
noncomputable def NW(d:Nat)(g:Sq):Prop:=∀k,k<=d->0<nk g k \/low g k
noncomputable def MP(d:Nat)(f b:Sq):Prop:=∀k,k<=d->0<mh f b k \/(low f k/\ low b k)
theorem vL{p:Int}{b D:Sq}{k:Nat}(h:low b k)(hD:D k=0):up1 p (b,D) k=0:=by
 show 1*(1*Mine.jG b k+p*b k)+ -1*D k=0
 rw[h.jG,h k (aR k),hD];simp
theorem Ng{p:Int}{b D:Sq}{d:Nat}(R:Rel b D)(N:NW d b):MP d (up1 p (b,D)) b:=λk hk=>by
 rcases N k hk with h|h
 · left
   rw[DJ]
   have:=R.1 k
   exact Q86 h this
 · by_cases e:b (k+1)=0
   · right
     have hl:=h.succ e
     exact⟨λi hi=>vL (h.le hi) (R.2 i (hl.le (Nat.succ_le_succ hi))),h⟩
   · have hz: ∀i,i<k->up1 p (b,D) i=0:=λi hi=>vL (h.le (Nat.le_of_lt hi)) (R.2 i (h.le hi))
     by_cases e2:D k=0
     · right
       exact⟨λi hi=>(pK hi).elim (hz i) λq=>q▸vL h e2,h⟩
     · left
       rw[DJ]
       have h1:=R.1 k
       have hb:b k=0:=h k (aR k)
       have e3:nk b k=0:=by unfold nk;rw[hb,h.jG];simp
       have e4:mh b D k=b (k+1)*D k:=by unfold mh;rw[hb];simp
       have e5:mh b D k≠0:=by rw[e4];exact Int.mul_ne_zero e e2
       exact Tj h1 e3 e5
noncomputable def Bd(n:Nat)(g:Sq):Prop:=∀j,n<=j->g j=0
theorem Jo{f b:Sq}{d:Nat}(M:MP d f b)(hf:Bd (d+2) f)(hb:Bd (d+1) b)(k:Nat):0<=mh f b k:=by
 by_cases hk:k<=d
 · rcases M k hk with h|⟨h1,h2⟩
   · exact Int.le_of_lt h
   · unfold mh
     rw[h1 k (aR k),h2 k (aR k)];simp
 · unfold mh
   rw[hf (k+1) (RJ hk),hb (k+1) (RK hk)];simp
theorem xC{w:Int}{b x y:Sq}{d:Nat}(hw:0<=w)(M:MP d b x)(hf:Bd (d+2) b)(hb:Bd (d+1) x)(R:Rel b y):Rel b λk=>w*x k+1*y k:=by
 refine⟨λk=>?_,λk h=>?_⟩
 · rw[Ad]
   exact Int.add_nonneg (Int.mul_nonneg hw (Jo M hf hb k)) (R.1 k)
 · have hy:=R.2 k h
   have hx:x k=0:=by
    by_cases hk:k<=d
    · rcases M k hk with h1|⟨_,h2⟩
      · exfalso
        unfold mh at h1
        rw[h (k+1) (aR _),h k (Nat.le_succ k)] at h1
        simp at h1
      · exact h2 k (aR k)
    · exact hb k (QL hk)
   show w*x k+1*y k=0
   rw[hx,hy];simp
theorem DK{p:Int}{b D:Sq}{n:Nat}(h1:Bd n b)(h2:Bd n D):Bd (n+1) (up1 p (b,D)):=λj hj=>by
 obtain⟨i,rfl⟩: ∃i,j=i+1:=⟨j-1,OH hj⟩
 show 1*(1*b i+p*b (i+1))+ -1*D (i+1)=0
 rw[h1 i (OE hj),h1 (i+1) (OI hj),h2 (i+1) (OI hj)];simp
theorem Bd.le{n m:Nat}{g:Sq}(h:Bd n g)(hm:n<=m):Bd m g:=λj hj=>h j (aX hm hj)
theorem oR(p:Int): ∀(φ:Fo) (n:Nat) (g:Sq),Bd (n+1) g->Bd (n+1+φ.size) (PD p φ g).1/\ Bd (n+φ.size) (PD p φ g).2/\ (PD p φ g).1 (n+φ.size)=g n
 | .nil,n,g,h=>⟨h,λ_ _=>rfl,rfl⟩
 | .node w c s,n,g,h=>by
  obtain⟨s1,s2,s3⟩:=oR p s n g h
  obtain⟨c1,c2,c3⟩:=oR p c (n+s.size) (PD p s g).1 (s1.le (J4))
  have hsz:(Fo.node w c s).size=c.size+s.size+1:=rfl
  have u1:Bd (n+1+s.size+c.size+1) (up1 p (PD p c (PD p s g).1)):=DK (c1.le (Vc)) (c2.le (Ur))
  have e2:Bd (n+s.size+c.size+1) (up1 p (PD p c (PD p s g).2)):=by
   by_cases hz:n+s.size=0
   · have e0:(PD p s g).2=λ_=>0:=funext λj=>s2 j (Rz hz)
     rw[e0]
     have:=(Ab p c).smul 0 (λ_=>0)
     have e:TP p c (λ_=>0)=λ_=>0:=by simpa using this
     intro j _
     exact congrFun e j
   · obtain⟨m,hm⟩: ∃m,n+s.size=m+1:=⟨n+s.size-1,Vo hz⟩
     obtain⟨d1,d2,_⟩:=oR p c m (PD p s g).2 (s2.le (Uc hm))
     exact DK (d1.le (VM hm)) (d2.le (Vu hm))
  refine⟨u1.le (Wl hsz),λj hj=>?_,?_⟩
  · show w*(PD p c (PD p s g).1).1 j+1*up1 p (PD p c (PD p s g).2) j=0
    rw[c1 j (Wm hj hsz),e2 j (Wn hj hsz)];simp
  · rw[hsz]
    show 1*(1*(PD p c (PD p s g).1).1 (n+(c.size+s.size))+p*(PD p c (PD p s g).1).1 (n+(c.size+s.size)+1))+ -1*(PD p c (PD p s g).1).2 (n+(c.size+s.size)+1)=g n
    rw[show n+(c.size+s.size)=n+s.size+c.size by exact Tn,c3,s3,c1 _ (by exact Vd),c2 _ (by exact Us)];simp
noncomputable def one:Sq:=λk=>if k=0 then 1 else 0
noncomputable def lp:List (Int×Int)->Sq->Sq
 |[],h=>h
 |x::l,h=>cy x.1 x.2 (lp l h)
noncomputable def DM:List (Int×Int)->Sq->Sq
 |[],_=>λ_=>0
 |x::l,h=>λk=>x.1*lp l h k+1*cy x.1 x.2 (DM l h) k
noncomputable def F0(g:Sq):Sq:=λk=>(k+1:Int)*g (k+1)
theorem Ae: ∀l,dU (lp l)
 |[]=>dU.id
 |x::l=>(dU.cy x.1 x.2).comp (Ae l)
theorem yU: ∀l,dU (DM l)
 |[]=>dU.zero
 |x::l=>(Ae l).sum ((dU.cy x.1 x.2).comp (yU l)) x.1 1
theorem F1(a c:Int)(g:Sq):F0 (cy a c g)=λk=>a*g k+1*cy a c (F0 g) k:=funext λk=>by
 show(k+1:Int)*(a*g k+c*g (k+1))=a*g k+1*(a*jG (F0 g) k+c*((k+1:Int)*g (k+1)))
 have:jG (F0 g) k=k*g k:=match k with
  |0=>by simp[jG]
  |k+1=>by show((k:Int)+1)*g (k+1)=((k+1:Nat):Int)*g (k+1);simp
 rw[this]
 generalize g k=x
 generalize g (k+1)=y
 generalize (k:Int)=z
 grind
theorem DN: ∀l,F0 (lp l one)=DM l one
 |[]=>funext λk=>by show(k+1:Int)*(if k+1=0 then 1 else 0)=0;simp
 |x::l=>by
  show F0 (cy x.1 x.2 (lp l one))=_
  rw[F1,DN l];rfl
theorem DO{a c:Int}{n:Nat}{g:Sq}(h:Bd n g):Bd (n+1) (cy a c g):=λj hj=>by
 obtain⟨i,rfl⟩: ∃i,j=i+1:=⟨j-1,OH hj⟩
 show a*g i+c*g (i+1)=0
 rw[h i (OE hj),h (i+1) (OI hj)];simp
theorem nH:Bd 1 one:=λj hj=>by show(if j=0 then(1:Int) else 0)=0;rw[aa (ZR hj)]
theorem uw: ∀(l:List (Int×Int)) {n:Nat} {g:Sq},Bd n g->Bd (n+l.length) (lp l g)
 |[],_,_,h=>h
 |x::l,n,g,h=>by
  have:=DO (a:=x.1) (c:=x.2) (uw l h)
  exact this.le (by simp;exact Si)
theorem low.cy{a c:Int}{b:Sq}{k:Nat}(h:low b k):low (cy a c b) k:=λi hi=>by
 show a*Mine.jG b i+c*b i=0
 rw[(h.le hi).jG,h i hi];simp
theorem F2(a c:Int)(b:Sq)(k:Nat):mh (cy a c b) b k=a*nk b k:=by
 show(a*b k+c*b (k+1))*b k-(a*jG b k+c*b k)*b (k+1)=a*(b k*b k-jG b k*b (k+1))
 generalize b k=x
 generalize b (k+1)=y
 generalize jG b k=z
 grind
theorem DP{a c:Int}{b:Sq}{d:Nat}(ha:0<a)(N:NW d b):MP d (cy a c b) b:=λk hk=>by
 rcases N k hk with h|h
 · left;rw[F2];exact Int.mul_pos ha h
 · right;exact⟨h.cy,h⟩
theorem Rel.zero(b:Sq):Rel b λ_=>0:=⟨λk=>by unfold mh;simp,λ_ _=>rfl⟩
noncomputable abbrev qh(l:List (Int×Int)):Prop:=∀x∈l,0<x.1
theorem DQ: ∀(l m:List (Int×Int)) (h:Sq),lp (l++m) h=lp l (lp m h)
 |[],_,_=>rfl
 |x::l,m,h=>by show cy x.1 x.2 (lp (l++m) h)=cy x.1 x.2 (lp l (lp m h));rw[DQ l m h]
theorem Af{N:Nat}(ih: ∀l,qh l->l.length<=N->NW l.length (lp l one)): ∀(l m:List (Int×Int)),qh l->qh m->l.length+m.length<=N+1->Rel (lp l (lp m one)) (DM l (lp m one))
 |[],m,_,_,_=>Rel.zero _
 |x::l,m,hl,hm,hs=>by
  have pQ:qh l:=λy hy=>hl y (.tail _ hy)
  have hx:0<x.1:=hl x (.head _)
  have nY:l.length+m.length<=N:=by simp at hs;exact Ud hs
  have e1:cy x.1 x.2 (lp l (lp m one))=lp l (lp (x::m) one):=((Ae l).uv x.1 x.2 _).symm
  have e2:cy x.1 x.2 (DM l (lp m one))=DM l (lp (x::m) one):=((yU l).uv x.1 x.2 _).symm
  have hn:NW (l.length+m.length) (lp l (lp m one)):=by
   have:=ih (l++m) (λy hy=>(bB.mp hy).elim (pQ y) (hm y)) (by simpa using nY)
   rw[DQ] at this
   simpa using this
  have hb:Bd (l.length+m.length+1) (lp l (lp m one)):=(uw l (uw m nH)).le (by exact Sj)
  have R:Rel (cy x.1 x.2 (lp l (lp m one))) (cy x.1 x.2 (DM l (lp m one))):=by
   rw[e1,e2]
   exact Af ih l (x::m) pQ (λy hy=>(aB.mp hy).elim (λe=>e▸hx) (hm y)) (by simp;exact Ue nY)
  exact xC (Int.le_of_lt hx) (DP hx hn) (DO hb) hb R
theorem vM(b:Sq):0<nk b 0 \/low b 0:=by
 by_cases h:b 0=0
 · exact .inr λj hj=>by rw[show j=0 by lia];exact h
 · left
   show 0<b 0*b 0-0*b (0+1)
   rw[gF,Int.sub_zero]
   rcases Int.lt_or_gt_of_ne h with q|q
   · exact uH q q
   · exact Int.mul_pos q q
theorem sq_pos{x:Int}(h:x≠0):0<x*x:=by
 rcases Int.lt_or_gt_of_ne h with q|q
 · exact uH q q
 · exact Int.mul_pos q q
theorem DR{u x v k:Int}(hk:0<=k)(h:0<(k+1)*(x*x)-(k+2)*(u*v)):0<x*x-u*v:=by
 have hx:0<=x*x:=by
  by_cases e:x=0
  · rw[e];decide
  · exact Int.le_of_lt (sq_pos e)
 generalize x*x=a at*
 generalize u*v=b at*
 by_cases q:0<a-b
 · exact q
 · exfalso
   have h1:(k+1)*a<=(k+2)*a:=uG (PN) hx
   have h2:(k+2)*a<=(k+2)*b:=Int.mul_le_mul_of_nonneg_left (QM q) (by exact Px hk)
   lia
theorem Ag: ∀(N:Nat) (l:List (Int×Int)),qh l->l.length<=N->NW l.length (lp l one)
 |0,l,hl,hs=>by
  have e:l=[]:=gh (by exact Q55 hs)
  subst e
  intro k hk
  have:k=0:=by simpa using hk
  subst this
  exact vM _
 |N+1,l,hl,hs=>by
  match l,hl,hs with
  |[],_,_=>exact Ag N [] (λ_ h=>nomatch h) (by simp)
  |x::l,hl,hs=>
   have ih:=Ag N
   have pQ:qh l:=λy hy=>hl y (.tail _ hy)
   have hx:0<x.1:=hl x (.head _)
   have Cq:l.length<=N:=by simp at hs;exact hs
   intro k hk
   match k,hk with
   |0,_=>exact vM _
   |k+1,hk=>
    have E4:k<=l.length:=by simp at hk;exact hk
    generalize hf:lp (x::l) one=f
    by_cases yE:low f (k+1)
    · exact .inr yE
    left
    by_cases wH:low f k
    · have h0:f (k+1)≠0:=λe=>yE (wH.succ e)
      have h1:f k=0:=wH k (aR k)
      show 0<f (k+1)*f (k+1)-f k*f (k+1+1)
      rw[h1,gF,Int.sub_zero]
      exact sq_pos h0
    · have hn:NW l.length (lp l one):=ih l pQ Cq
      have M:=DP (c:=x.2) hx hn k E4
      have e1:cy x.1 x.2 (lp l one)=f:=hf
      rw[e1] at M
      have hp:0<mh f (lp l one) k:=M.elim id λh=>absurd h.1 wH
      have R:Rel f (cy x.1 x.2 (DM l one)):=by
       have:=Af ih l [x] pQ (λy hy=>by rw[ay.mp hy];exact hx) (by simp;exact ZV Cq)
       have a1:lp l (lp [x] one)=f:=by rw[<-e1];exact(Ae l).uv x.1 x.2 one
       have a2:DM l (lp [x] one)=cy x.1 x.2 (DM l one):=(yU l).uv x.1 x.2 one
       rwa [a1,a2] at this
      have hd:F0 f=λk=>x.1*lp l one k+1*cy x.1 x.2 (DM l one) k:=by rw[<-hf,DN];rfl
      have hm:0<mh f (F0 f) k:=by
       rw[hd,Ad]
       have:=R.1 k
       have:=Int.mul_pos hx hp
       exact Q86 this (by assumption)
      have e:mh f (F0 f) k=(k+1)*(f (k+1)*f (k+1))-(k+2)*(f k*f (k+1+1)):=by
       show f (k+1)*((k+1:Int)*f (k+1))-f k*(((k+1:Nat)+1:Int)*f (k+1+1))=_
       rw[show(((k+1:Nat)+1:Int))=(k:Int)+2 by lia]
       generalize f (k+1)=a
       generalize f k=b
       generalize f (k+1+1)=c
       grind
      rw[e] at hm
      exact DR (k:=(k:Int)) (Q0) hm
theorem DS(f b:Sq)(s:Int)(k:Nat)(hs:s*s=1):mh (cy (s*f (k+1)) (-(s*f k)) f) (cy (s*f (k+1)) (-(s*f k)) b) (k+1)=nk f (k+1)*mh f b k:=by
 show(s*f (k+1)*f (k+1)+ -(s*f k)*f (k+1+1))*(s*f (k+1)*b k+ -(s*f k)*b (k+1))-(s*f (k+1)*f k+ -(s*f k)*f (k+1))*(s*f (k+1)*b (k+1)+ -(s*f k)*b (k+1+1))=(f (k+1)*f (k+1)-f k*f (k+1+1))*(f (k+1)*b k-f k*b (k+1))
 generalize f (k+1)=x at*
 generalize f (k+1+1)=y at*
 generalize f k=z at*
 generalize b (k+1)=u at*
 generalize b (k+1+1)=v at*
 generalize b k=t at*
 have e1:s*x*z+ -(s*z)*x=0:=by grind
 simp only[e1,gF,Int.sub_zero]
 have e2:(s*x*x+ -(s*z)*y)*(s*x*t+ -(s*z)*u)=(s*s)*((x*x-z*y)*(x*t-z*u)):=by grind
 simp only[e2,hs,fc]
theorem yV{a c:Int}{f:Sq}{k:Nat}(ha:0<a)(h:low (cy a c f) (k+1)):low f k:=by
 by_cases hc:c=0
 · intro i hi
   have:=h (i+1) (Q85 hi)
   have e:a*f i+c*f (i+1)=0:=this
   simp only[hc,gF,fB] at e
   exact(Int.mul_eq_zero.mp e).resolve_left (NH ha)
 · intro i
   induction i with
   |zero=>
    intro _
    have e:a*0+c*f 0=0:=h 0 (OR)
    rw[e_,iz] at e
    exact(Int.mul_eq_zero.mp e).resolve_left hc
   |succ i ih=>
    intro hi
    have e:a*f i+c*f (i+1)=0:=h (i+1) (Q95 hi)
    simp only[ih (Q4 hi),e_,iz] at e
    exact(Int.mul_eq_zero.mp e).resolve_left hc
theorem lO{a b:Int}(h:0<a*b)(hb:0<b):0<a:=by
 rcases Int.lt_trichotomy a 0 with q|q|q
 · have:=Int.mul_neg_of_neg_of_pos q hb;lia
 · rw[q] at h;simp at h
 · exact q
theorem DU{f b:Sq}{d:Nat}(M:MP d f b)(ML: ∀a c:Int,0<a->MP (d+1) (cy a c f) (cy a c b))(ht:f (d+1)≠0):NW (d+1) f:=λk hk=>by
 match k,hk with
 |0,_=>exact vM _
 |k+1,hk=>
  by_cases yE:low f (k+1)
  · exact .inr yE
  left
  by_cases wH:low f k
  · have h0:f (k+1)≠0:=λe=>yE (wH.succ e)
    have h1:f k=0:=wH k (aR k)
    show 0<f (k+1)*f (k+1)-f k*f (k+1+1)
    simp only[h1,gF,Int.sub_zero]
    exact sq_pos h0
  · have hm:0<mh f b k:=(M k (OE hk)).elim id λh=>absurd h.1 wH
    by_cases hz:f (k+1)=0
    · have wF:k+1<=d:=by
       by_cases e:k=d
       · subst e;exact absurd hz ht
       · exact UP hk e
      have Oj:0<mh f b (k+1):=(M (k+1) wF).elim id λh=>absurd h.1 yE
      show 0<f (k+1)*f (k+1)-f k*f (k+1+1)
      have e1:mh f b k= -(f k*b (k+1)):=by unfold mh;rw[hz];simp
      have e2:mh f b (k+1)=f (k+1+1)*b (k+1):=by unfold mh;rw[hz];simp
      rw[e1] at hm
      rw[e2] at Oj
      rw[hz]
      generalize f k=x at*
      generalize f (k+1+1)=y at*
      generalize b (k+1)=z at*
      have h3:0<(0*0-x*y)*(z*z):=by
       have:=Int.mul_pos hm Oj
       have e: -(x*z)*(y*z)=(0*0-x*y)*(z*z):=by grind
       rw[<-e];exact this
      refine lO h3 (sq_pos λe=>?_)
      rw[e] at Oj;simp at Oj
    · have key: ∀s:Int,s*s=1->0<s*f (k+1)->0<nk f (k+1):=λs hs hp=>by
       have h:=ML (s*f (k+1)) (-(s*f k)) hp (k+1) hk
       rcases h with h|h
       · rw[DS f b s k hs] at h
         exact lO h hm
       · exact absurd (yV hp h.1) wH
      rcases Int.lt_or_gt_of_ne hz with q|q
      · exact key (-1) rfl (P7 q)
      · exact key 1 rfl (Py q)
noncomputable def Fo.app:Fo->Fo->Fo
 | .nil,t=>t
 | .node w c s,t=>.node w c (s.app t)
theorem Fo.fJ: ∀s t:Fo,(s.app t).size=s.size+t.size
 | .nil,t=>by simp[Fo.app,Fo.size]
 | .node w c s,t=>by
  have:=Fo.fJ s t
  show c.size+(s.app t).size+1=c.size+s.size+1+t.size
  exact VN this
noncomputable def Fo.pos:Fo->Prop
 | .nil=>True
 | .node w c s=>0<w/\ c.pos/\ s.pos
theorem Fo.oS: ∀{s t:Fo},s.pos->t.pos->(s.app t).pos
 | .nil,_,_,h=>h
 | .node w c s,t,⟨a,b,e⟩,h=>⟨a,b,Fo.oS e h⟩
theorem qi(p:Int): ∀(s t:Fo) (g:Sq),(PD p (s.app t) g).1=(PD p s (PD p t g).1).1
 | .nil,_,_=>rfl
 | .node w c s,t,g=>by
  show up1 p (PD p c (PD p (s.app t) g).1)=up1 p (PD p c (PD p s (PD p t g).1).1)
  rw[qi p s t g]
theorem DV: ∀(l:List (Int×Int)) {n:Nat} {g:Sq},Bd (n+1) g->qh l->g n≠0->lp l g (n+l.length)≠0
 |[],_,_,_,_,h=>h
 |x::l,n,g,hb,hl,h=>by
  have ih:=DV l hb (λy hy=>hl y (.tail _ hy)) h
  show x.1*jG (lp l g) (n+(l.length+1))+x.2*lp l g (n+(l.length+1))≠0
  simp only[uw l hb (n+(l.length+1)) (Sk),e_,fB]
  have hx:0<x.1:=hl x (.head _)
  exact Int.mul_ne_zero (ZH hx) ih
noncomputable abbrev G1(p:Int)(φ:Fo)(l:List (Int×Int)):Sq:=(PD p φ (lp l one)).1
theorem xD(p:Int)(φ:Fo)(l:List (Int×Int)):Bd (φ.size+l.length+1) (G1 p φ l):=by
 have h:Bd (l.length+1) (lp l one):=(uw l nH).le (ZY)
 exact(oR p φ l.length (lp l one) h).1.le (Sl)
theorem yW(p:Int)(φ:Fo){l:List (Int×Int)}(hl:qh l):G1 p φ l (φ.size+l.length)≠0:=by
 have h:Bd (l.length+1) (lp l one):=(uw l nH).le (ZY)
 have:=(oR p φ l.length (lp l one) h).2.2
 rw[Nat.add_comm φ.size,show G1 p φ l (l.length+φ.size)=lp l one l.length from this]
 have:=DV l (n:=0) nH hl (by decide)
 rwa [Nat.zero_add] at this
structure DW(p:Int)(N:Nat):Prop where
 nw: ∀φ l,φ.pos->qh l->φ.size<=N->NW (φ.size+l.length) (G1 p φ l)
 rel: ∀φ ψ l,φ.pos->ψ.pos->qh l->φ.size+ψ.size<=N->Rel (PD p φ (G1 p ψ l)).1 (PD p φ (G1 p ψ l)).2
theorem DW.mp{p:Int}{N:Nat}(H:DW p N){c s:Fo}{l:List (Int×Int)}(hc:c.pos)(hs:s.pos)(hl:qh l)(hz:c.size+s.size<=N):
 MP (c.size+s.size+l.length) (up1 p (PD p c (G1 p s l))) (PD p c (G1 p s l)).1:=by
 have R:=H.rel c s l hc hs hl hz
 have hn:=H.nw (c.app s) l (Fo.oS hc hs) hl (by rw[Fo.fJ];exact hz)
 have e:G1 p (c.app s) l=(PD p c (G1 p s l)).1:=qi p c s _
 simp only[e,Fo.fJ] at hn
 exact Ng R hn
theorem DW.Ah{p:Int}{N:Nat}(H:DW p N): ∀(φ ψ:Fo) (l:List (Int×Int)),φ.pos->ψ.pos->qh l->φ.size+ψ.size<=N+1->Rel (PD p φ (G1 p ψ l)).1 (PD p φ (G1 p ψ l)).2
 | .nil,_,_,_,_,_,_=>Rel.zero _
 | .node w c s,ψ,l,⟨hw,hc,hs⟩,hp,hl,hz=>by
  have qZ:c.size+s.size+1+ψ.size<=N+1:=hz
  have e1:(PD p s (G1 p ψ l)).1=G1 p (s.app ψ) l:=(qi p s ψ _).symm
  have M:=H.mp hc (Fo.oS hs hp) hl (by rw[Fo.fJ];exact VO qZ)
  rw[<-e1] at M
  have b1:=xD p (c.app (s.app ψ)) l
  have e2:G1 p (c.app (s.app ψ)) l=(PD p c (PD p s (G1 p ψ l)).1).1:=by rw[e1];exact qi p c _ _
  rw[e2] at b1
  rw[Fo.fJ,Fo.fJ] at b1
  rw[Fo.fJ] at M
  have b2:=xD p (.node w c (s.app ψ)) l
  have e3:G1 p (.node w c (s.app ψ)) l=up1 p (PD p c (PD p s (G1 p ψ l)).1):=by rw[e1];rfl
  rw[e3] at b2
  have Ol:(Fo.node w c (s.app ψ)).size=c.size+(s.size+ψ.size)+1:=by show c.size+(s.app ψ).size+1=_;rw[Fo.fJ]
  rw[Ol] at b2
  have R:Rel (up1 p (PD p c (PD p s (G1 p ψ l)).1)) (up1 p (PD p c (PD p s (G1 p ψ l)).2)):=by
   have h:=Ah H s (.node w c ψ) l hs ⟨hw,hc,hp⟩ hl (by show s.size+(c.size+ψ.size+1)<=N+1;exact Wo qZ)
   have e4:G1 p (.node w c ψ) l=TP p c (G1 p ψ l):=rfl
   rw[e4,(Ab p c).DH p s (G1 p ψ l)] at h
   exact h
  exact xC (Int.le_of_lt hw) M (b2.le (Wv)) (b1.le (V6)) R
theorem Nh(p:Int): ∀N,DW p N
 |0=>by
  have key: ∀φ:Fo,φ.size<=0->φ= .nil:=λφ h=>match φ with
   | .nil=>rfl
   | .node w c s=>by have:c.size+s.size+1<=0:=h;lia
  refine⟨λφ l hp hl hz=>?_,λφ ψ l hp hq hl hz=>?_⟩
  · obtain rfl:=key φ hz
    have:=Ag l.length l hl (aR _)
    show NW (0+l.length) (lp l one)
    rwa [Nat.zero_add]
  · obtain rfl:=key φ (PW hz)
    exact Rel.zero _
 |N+1=>by
  have H:=Nh p N
  refine⟨λφ l hp hl hz=>?_,λφ ψ l hp hq hl hz=>H.Ah φ ψ l hp hq hl hz⟩
  match φ,hp,hz with
  | .nil,_,_=>
   have:=Ag l.length l hl (aR _)
   show NW (0+l.length) (lp l one)
   rwa [Nat.zero_add]
  | .node w c s,⟨hw,hc,hs⟩,hz=>
   have qZ:c.size+s.size+1<=N+1:=hz
   have Ol:c.size+s.size<=N:=Ug qZ
   have M:=H.mp hc hs hl Ol
   have e:c.size+s.size+l.length+1=(Fo.node w c s).size+l.length:=by show _=c.size+s.size+1+l.length;exact Ve
   have ht:=yW p (.node w c s) hl
   rw[<-e] at ht ⊢
   refine DU M (λa b ha=>?_) ht
   have M':=H.mp (l:=(a,b)::l) hc hs (λy hy=>(aB.mp hy).elim (λq=>by rw[q];exact ha) (hl y)) Ol
   have e1:G1 p s ((a,b)::l)=cy a b (G1 p s l):=(DI p s a b (lp l one)).1
   have e2:=DI p c a b (G1 p s l)
   have e3:up1 p (PD p c (cy a b (G1 p s l)))=cy a b (up1 p (PD p c (G1 p s l))):=(Ab p c).uv a b _
   simp only[e1,e3,e2.1] at M'
   exact M'
noncomputable def BE(x:Int)(st:Int×Nat):Int×Nat:=if x=0 then st else(aW x,if st.1≠0/\ st.1≠aW x then st.2+1 else st.2)
noncomputable def ki:List Int->Int×Nat
 |[]=>(0,0)
 |x::l=>BE x (ki l)
noncomputable def seg(g:Sq)(j:Nat):Nat->List Int
 |0=>[]
 |c+1=>g j::seg g (j+1) c
theorem sQ{g:Sq}: ∀(c:Nat) {j:Nat},(∀i,j<=i->g i=0)->ki (seg g j c)=(0,0)
 |0,_,_=>rfl
 |c+1,j,h=>by
  show BE (g j) (ki (seg g (j+1) c))=(0,0)
  rw[sQ c λi hi=>h i (Q4 hi),h j (aR j)];rfl
noncomputable abbrev yX:List Int:=[-1,0,1]
noncomputable abbrev F3:List Int:=[1,-1]
theorem eL(x:Int):aW x∈yX:=by
 unfold aW
 by_cases h:0<x
 · rw[af h];decide
 · rw[aa h]
   by_cases h2:x<0
   · rw[af h2];decide
   · rw[aa h2];decide
theorem eW{x:Int}:aW x=0↔x=0:=by
 unfold aW
 by_cases h:0<x
 · rw[af h];constructor<;>intro e<;>lia
 · rw[aa h]
   by_cases h2:x<0
   · rw[af h2];constructor<;>intro e<;>lia
   · rw[aa h2];constructor<;>intro e<;>lia
theorem fQ{x:Int}(h:0<x):aW x=1:=af h
theorem gS{x:Int}(h:x<0):aW x= -1:=by unfold aW;rw[aa (Pe h),af h]
theorem sgn_mul(x y:Int):aW (x*y)=aW x*aW y:=by
 rcases Int.lt_trichotomy x 0 with hx|hx|hx
 · rcases Int.lt_trichotomy y 0 with hy|hy|hy
   · simp only[gS hx,gS hy,fQ (uH hx hy)];rfl
   · simp only[hy,e_,show aW 0=0 from rfl,e_]
   · simp only[gS hx,fQ hy,gS (Int.mul_neg_of_neg_of_pos hx hy)];rfl
 · simp only[hx,gF,show aW 0=0 from rfl,gF]
 · rcases Int.lt_trichotomy y 0 with hy|hy|hy
   · simp only[fQ hx,gS hy,gS (Int.mul_neg_of_pos_of_neg hx hy)];rfl
   · simp only[hy,e_,show aW 0=0 from rfl,e_]
   · simp only[fQ hx,fQ hy,fQ (Int.mul_pos hx hy)];rfl
theorem DX{x y x' y':Int}(h:0<x*y'-x'*y):0<aW x*aW y' \/aW x'*aW y<0:=by
 rw[<-sgn_mul,<-sgn_mul]
 by_cases q:0<x*y'
 · left;rw[fQ q];decide
 · right;rw[gS (show x'*y<0 by exact RL h q)];decide
noncomputable def dl(a s:Int):Nat:=if a=0 then 0 else if s=a then 0 else 1
noncomputable def ns(a s:Int):Int:=if a=0 then s else a
theorem yY{x s:Int}{v:Nat}(hs:s≠0):BE x (s,v)=(ns (aW x) s,v+dl (aW x) s):=by
 delta BE ns dl
 by_cases h:x=0
 · rw[af h,af (eW.mpr h),af (eW.mpr h)];rfl
 · rw[aa h,aa λe=>h (eW.mp e),aa λe=>h (eW.mp e)]
   by_cases e:s=aW x
   · rw[aa λq=>q.2 e,af e];rfl
   · rw[af ⟨hs,e⟩,aa e]
noncomputable def df(s t:Int):Nat:=if s=t then 0 else 1
theorem DY: ∀a∈yX,∀b∈yX,∀a'∈yX,∀b'∈yX,∀s∈F3,∀t∈F3,(0<a*b' \/a'*b<0)->(a≠0->s=a)->(b≠0->t=b)->(a=0->b≠0->s=t)->(b=0->a≠0->s≠t)->
 df s t+dl a' s=dl b' t+df (ns a' s) (ns b' t)/\ (a'=0->b'≠0->ns a' s=ns b' t)/\ (b'=0->a'≠0->ns a' s≠ns b' t)/\ ns a' s∈F3/\ ns b' t∈F3:=by decide+kernel
structure Inv(f b:Sq)(j c:Nat):Prop where
 s:(ki (seg f j c)).1∈F3
 t:(ki (seg b j c)).1∈F3
 v:(ki (seg f j c)).2=(ki (seg b j c)).2+df (ki (seg f j c)).1 (ki (seg b j c)).1
 i1:aW (f j)=0->aW (b j)≠0->(ki (seg f j c)).1=(ki (seg b j c)).1
 i2:aW (b j)=0->aW (f j)≠0->(ki (seg f j c)).1≠(ki (seg b j c)).1
 i3:aW (f j)≠0->(ki (seg f j c)).1=aW (f j)
 i4:aW (b j)≠0->(ki (seg b j c)).1=aW (b j)
theorem DZ{s:Int}(h:s∈F3):s≠0:=by
 rcases aB.mp h with rfl|h
 · decide
 · rw[ay.mp h];decide
theorem Inv.step{f b:Sq}{j c:Nat}(I:Inv f b (j+1) c)(h:0<mh f b j \/(f j=0/\ b j=0)):Inv f b j (c+1):=by
 have ef:ki (seg f j (c+1))=(ns (aW (f j)) (ki (seg f (j+1) c)).1,(ki (seg f (j+1) c)).2+dl (aW (f j)) (ki (seg f (j+1) c)).1):=yY (DZ I.s)
 have eb:ki (seg b j (c+1))=(ns (aW (b j)) (ki (seg b (j+1) c)).1,(ki (seg b (j+1) c)).2+dl (aW (b j)) (ki (seg b (j+1) c)).1):=yY (DZ I.t)
 obtain⟨s,t,v,i1,i2,i3,i4⟩:=I
 generalize ki (seg f (j+1) c)=F at*
 generalize ki (seg b (j+1) c)=B at*
 have nz: ∀{a s:Int},a≠0->ns a s=a:=λh=>aa h
 rcases h with h|⟨h1,h2⟩
 · obtain⟨k1,k2,k3,k4,k5⟩:=DY _ (eL (f (j+1))) _ (eL (b (j+1))) _ (eL (f j)) _ (eL (b j)) _ s _ t (DX h) i3 i4 i1 i2
   refine⟨?_,?_,?_,?_,?_,?_,?_⟩<;>(try rw[ef])<;>(try rw[eb])
   · exact k4
   · exact k5
   · show F.2+dl _ _=B.2+dl _ _+df _ _
     exact WD k1 v
   · exact k2
   · exact k3
   · exact λh=>nz h
   · exact λh=>nz h
 · have z1:aW (f j)=0:=eW.mpr h1
   have z2:aW (b j)=0:=eW.mpr h2
   have e1:ki (seg f j (c+1))=F:=by rw[ef,z1];rfl
   have e2:ki (seg b j (c+1))=B:=by rw[eb,z2];rfl
   refine⟨?_,?_,?_,?_,?_,?_,?_⟩<;>(try rw[e1])<;>(try rw[e2])
   · exact s
   · exact t
   · exact v
   · exact λ_ h=>absurd z2 h
   · exact λ_ h=>absurd z1 h
   · exact λh=>absurd z1 h
   · exact λh=>absurd z2 h
theorem Inv.start{f b:Sq}{d:Nat}(M:MP d f b)(hf:Bd (d+2) f)(hb:Bd (d+1) b)(ht:b d≠0)(c:Nat):Inv f b d (c+2):=by
 have z1:ki (seg f (d+2) c)=(0,0):=sQ c λi hi=>hf i hi
 have z2:ki (seg b (d+1) (c+1))=(0,0):=sQ (c+1) λi hi=>hb i hi
 have hm:0<mh f b d:=(M d (aR d)).elim id λh=>absurd (h.2 d (aR d)) ht
 have e:mh f b d=f (d+1)*b d:=by unfold mh;simp only[hb (d+1) (aR _),e_,Int.sub_zero]
 rw[e] at hm
 have hft:f (d+1)≠0:=λq=>by rw[q] at hm;simp at hm
 have hs:aW (f (d+1))*aW (b d)=1:=by rw[<-sgn_mul,fQ hm]
 have ef1:ki (seg f (d+1) (c+1))=(aW (f (d+1)),0):=by
  show BE (f (d+1)) (ki (seg f (d+2) c))=_
  rw[z1];unfold BE;rw[aa hft];rfl
 have ef:ki (seg f d (c+2))=(ns (aW (f d)) (aW (f (d+1))),0+dl (aW (f d)) (aW (f (d+1)))):=by
  show BE (f d) (ki (seg f (d+1) (c+1)))=_
  rw[ef1,yY λq=>hft (eW.mp q)]
 have eb:ki (seg b d (c+2))=(aW (b d),0):=by
  show BE (b d) (ki (seg b (d+1) (c+1)))=_
  rw[z2];unfold BE;rw[aa ht];rfl
 have fin: ∀a∈yX,∀x∈yX,∀y∈yX,x*y=1->ns a x∈F3/\ y∈F3/\ 0+dl a x=0+df (ns a x) y/\ (a=0->y≠0->ns a x=y)/\ (y=0->a≠0->ns a x≠y)/\ (a≠0->ns a x=a)/\ (y≠0->y=y):=by decide+kernel
 obtain⟨a,b',v,i1,i2,i3,i4⟩:=fin _ (eL (f d)) _ (eL _) _ (eL _) hs
 constructor<;>(try rw[ef])<;>(try rw[eb])<;>assumption
theorem Inv.all{f b:Sq}{d:Nat}(M:MP d f b)(hf:Bd (d+2) f)(hb:Bd (d+1) b)(ht:b d≠0)(c:Nat): ∀i,i<=d->Inv f b (d-i) (c+2+i)
 |0,_=>Inv.start M hf hb ht c
 |i+1,h=>by
  have I:=Inv.all M hf hb ht c i (Q4 h)
  rw[show d-i=d-(i+1)+1 by exact Ku h] at I
  exact I.step ((M (d-(i+1)) (P8)).imp id λq=>⟨q.1 _ (aR _),q.2 _ (aR _)⟩)
structure Ld(g:Sq)(o:Nat)(x:Int):Prop where
 z: ∀j,j<o->g j=0
 at_:g o=x
 ne:x≠0
theorem yZ{g:Sq}{o:Nat}{x:Int}(h:Ld g o x): ∀(j c:Nat),j<=o->o<j+c->(ki (seg g j c)).1=aW x
 |j,0,h1,h2=>by lia
 |j,c+1,h1,h2=>by
  show(BE (g j) (ki (seg g (j+1) c))).1=aW x
  unfold BE
  by_cases e:j=o
  · rw[e]
    rw[h.at_,aa h.ne]
  · rw[h.z j (Q92 h1 e),af rfl]
    exact yZ h (j+1) c (J6 h1 e) (Uh h2)
noncomputable abbrev D0(n:Nat)(g:Sq):Nat:=(ki (seg g 0 (n+1))).2
theorem turn{f b:Sq}{d n o m:Nat}{x y:Int}(M:MP d f b)(hf:Bd (d+2) f)(hb:Bd (d+1) b)(ht:b d≠0)(hn:d+1<=n)(lf:Ld f o x)(lb:Ld b m y)(ho:o<=n)(hm:m<=n):D0 n f=D0 n b+df (aW x) (aW y):=by
 have I:=Inv.all M hf hb ht (n-(d+1)) d (aR d)
 simp only[Nat.sub_self,show n-(d+1)+2+d=n+1 by exact Vv hn] at I
 have:=I.v
 rwa [yZ lf 0 (n+1) (ZF) (Q87 ho),yZ lb 0 (n+1) (ZF) (Q87 hm)] at this
structure Ac where
 t:Int
 u:Int
 h:Bool
structure Ct where
 c0:Int
 c1:Int
 c2:Int
noncomputable def dW(w:Int)(x y:Ac):Ac:=
 if x.h=true then y
 else if aW x.t=0 then{y with h:=true}
 else{y with t:=aW x.t*(y.t*x.t-w*x.u*y.u),u:=aW x.t*y.u*x.t}
noncomputable def gQ(x:Ac)(C:Ct):Ct:=
 if x.h=true then⟨C.c0+1,C.c1-1,C.c2+1⟩
 else if aW x.t=0 then⟨C.c0,C.c1+1,C.c2⟩
 else⟨if aW x.t= -1 then C.c0+1 else C.c0,C.c1,if aW x.t=1 then C.c2+1 else C.c2⟩
noncomputable def wk(p:Int):Fo->Ac
 | .nil=>⟨-p,1,false⟩
 | .node w c s=>dW w (wk p c) (wk p s)
noncomputable def Hx(p:Int):Fo->Ct->Ct
 | .nil,C=>C
 | .node w c s,C=>gQ (wk p c) (Hx p c (Hx p s C))
theorem D3(p:Int): ∀φ,0<(wk p φ).u
 | .nil=>by show(0:Int)<1;decide
 | .node w c s=>by
  have hs:=D3 p s
  show 0<(dW w (wk p c) (wk p s)).u
  unfold dW
  by_cases h:(wk p c).h=true
  · rw[af h];exact hs
  · rw[aa h]
    by_cases z:aW (wk p c).t=0
    · rw[af z];exact hs
    · rw[aa z]
      show 0<aW (wk p c).t*(wk p s).u*(wk p c).t
      generalize (wk p c).t=t at*
      generalize (wk p s).u=u at*
      have ht:t≠0:=λe=>z (eW.mpr e)
      rcases Int.lt_or_gt_of_ne ht with q|q
      · rw[gS q]
        have:=uH (show-1*u<0 by exact P9 hs) q
        exact this
      · rw[fQ q,fc];exact Int.mul_pos hs q
theorem Ni{g:Sq}: ∀n,g n≠0-> ∃o x,Ld g o x/\ o<=n:=λn=>by
 induction n using Nat.strongRecOn with
 |_ n ih=>
  intro h
  by_cases q: ∃j,j<n/\ g j≠0
  · obtain⟨j,hj,hz⟩:=q
    obtain⟨o,x,l,ho⟩:=ih j hj hz
    exact⟨o,x,l,Rg hj ho⟩
  · exact⟨n,_,⟨λj hj=>Decidable.byContradiction λe=>q ⟨j,hj,e⟩,rfl,h⟩,aR n⟩
theorem Ld.det{g:Sq}{o o':Nat}{x x':Int}(a:Ld g o x)(b:Ld g o' x'):o=o'/\ x=x':=by
 have h1: ¬o<o':=λq=>a.ne (a.at_▸b.z o q)
 have h2: ¬o'<o:=λq=>b.ne (b.at_▸a.z o' q)
 obtain rfl:o=o':=SH h1 h2
 exact⟨rfl,a.at_.symm.trans b.at_⟩
noncomputable def D4(p:Int)(A:Ac)(o:Nat)(x:Int)(Y:Sq):Prop:=
 (A.h=false/\ (∀j,j<o->Y j=0)/\ Y o*A.u=x*(A.t+p*A.u)) \/(A.h=true/\ ∃i,o=i+1/\ (∀j,j<i->Y j=0)/\ 0<Y i*x)
noncomputable def Zf(A:Ac)(oc:Nat)(β:Int)(o:Nat)(x:Int):Prop:=
 (A.h=true/\ oc=o+1/\ β*x<0) \/(A.h=false/\ A.t=0/\ o=oc+1/\ 0<x*β) \/(A.h=false/\ A.t≠0/\ o=oc/\ x*A.u= -(β*A.t))
theorem qj(p:Int)(b D:Sq)(j:Nat):up1 p (b,D) j=jG b j+p*b j-D j:=by
 show 1*(1*jG b j+p*b j)+ -1*D j=_
 exact VP
theorem xE{b:Sq}{o:Nat}(h: ∀j,j<o->b j=0): ∀j,j<=o->jG b j=0
 |0,_=>rfl
 |j+1,hj=>h j hj
theorem Jp{p:Int}{b D:Sq}{A:Ac}{oc o:Nat}{β x:Int}{d:Nat}(hu:0<A.u)(lb:Ld b oc β)(hS:D4 p A oc β D)(lf:Ld (up1 p (b,D)) o x)(M:MP d (up1 p (b,D)) b)(hd:oc<=d):Zf A oc β o x:=by
 rcases hS with⟨hh,hz,hy⟩|⟨hh,i,rfl,hz,hy⟩
 · have z1: ∀j,j<oc->up1 p (b,D) j=0:=λj hj=>by
    simp only[qj,xE lb.z j (OA hj),lb.z j hj,hz j hj];simp
   have z2:up1 p (b,D) oc*A.u= -(β*A.t):=by
    simp only[qj,xE lb.z oc (aR _),lb.at_,Int.sub_mul,hy]
    generalize A.u=u
    generalize A.t=t
    grind
   by_cases ht:A.t=0
   · refine .inr (.inl ⟨hh,ht,?_⟩)
     have z3:up1 p (b,D) oc=0:=by
      simp only[ht,e_,Int.neg_zero] at z2
      exact(Int.mul_eq_zero.mp z2).resolve_right (NH hu)
     have hm:0<mh (up1 p (b,D)) b oc:=(M oc hd).elim id λh=>absurd (lb.at_▸h.2 oc (aR _)) lb.ne
     have e:mh (up1 p (b,D)) b oc=up1 p (b,D) (oc+1)*β:=by unfold mh;simp only[z3,lb.at_,gF,Int.sub_zero]
     rw[e] at hm
     have l:Ld (up1 p (b,D)) (oc+1) (up1 p (b,D) (oc+1)):=⟨λj hj=>by
      by_cases q:j=oc
      · rw[q];exact z3
      · exact z1 j (SO hj q),rfl,λq=>by rw[q] at hm;simp at hm⟩
     obtain⟨rfl,rfl⟩:=lf.det l
     exact⟨rfl,hm⟩
   · refine .inr (.inr ⟨hh,ht,?_⟩)
     have l:Ld (up1 p (b,D)) oc (up1 p (b,D) oc):=⟨z1,rfl,λq=>by
      rw[q,gF] at z2
      exact(Int.mul_ne_zero lb.ne ht) (Pf z2)⟩
     obtain⟨rfl,rfl⟩:=lf.det l
     exact⟨rfl,z2⟩
 · have l:Ld (up1 p (b,D)) i (up1 p (b,D) i):=⟨λj hj=>by
    simp only[qj,xE lb.z j (Qh hj),lb.z j (Ov hj),hz j hj];simp,rfl,λq=>by
     simp only[qj,xE lb.z i (ZM),lb.z i (Q8)] at q
     have:D i=0:=by lia
     rw[this] at hy;simp at hy⟩
   obtain⟨rfl,rfl⟩:=lf.det l
   refine .inl ⟨hh,rfl,?_⟩
   simp only[qj,xE lb.z o (ZM),lb.z o (Q8)]
   generalize D o=y at*
   have:β*(0+p*0-y)= -(y*β):=by grind
   rw[this];exact Pg hy
theorem D5{x y z:Int}(h:0<x*z)(k:0<y*z):0<(x+y)*z:=by rw[Int.add_mul];exact Rh h k
theorem BF{p w:Int}{A B:Ac}{oc o:Nat}{β x:Int}{b y:Sq}(hw:0<w)(lb:Ld b oc β)(K:Zf A oc β o x)(S:D4 p B o x y):D4 p (dW w A B) o x (λk=>w*b k+1*y k):=by
 unfold dW
 rcases K with⟨hh,rfl,hb⟩|⟨hh,ht,rfl,hb⟩|⟨hh,ht,rfl,hb⟩
 · rw[af hh]
   rcases S with⟨h1,h2,h3⟩|⟨h1,i,rfl,h2,h3⟩
   · refine .inl ⟨h1,λj hj=>?_,?_⟩
     · show w*b j+1*y j=0
       rw[lb.z j (Ov hj),h2 j hj];simp
     · show(w*b o+1*y o)*B.u=_
       rw[lb.z o (Q8),<-h3];simp
   · refine .inr ⟨h1,i,rfl,λj hj=>?_,?_⟩
     · show w*b j+1*y j=0
       simp only[lb.z j (Ri hj),h2 j hj];simp
     · show 0<(w*b i+1*y i)*x
       rw[lb.z i (PO)];simpa using h3
 · rw[aa (by rw[hh];decide),af (by rw[ht];rfl)]
   have pT:0<(w*b oc)*x:=by
    simp only[lb.at_,Int.mul_assoc,iy β x];exact Int.mul_pos hw hb
   refine .inr ⟨rfl,oc,rfl,?_,?_⟩
   · intro j hj
     show w*b j+1*y j=0
     rw[lb.z j hj]
     rcases S with⟨h1,h2,h3⟩|⟨h1,i,hi,h2,h3⟩
     · rw[h2 j (Ov hj)];simp
     · rw[h2 j (S7 hi hj)];simp
   · show 0<(w*b oc+1*y oc)*x
     rcases S with⟨h1,h2,h3⟩|⟨h1,i,hi,h2,h3⟩
     · rw[h2 oc (Q8)];simpa using pT
     · obtain rfl:oc=i:=Rj hi
       exact D5 pT (by simpa using h3)
 · rw[aa (by rw[hh];decide),aa λe=>ht (eW.mp e)]
   rcases S with⟨h1,h2,h3⟩|⟨h1,i,rfl,h2,h3⟩
   · refine .inl ⟨h1,λj hj=>?_,?_⟩
     · show w*b j+1*y j=0
       rw[lb.z j hj,h2 j hj];simp
     · show(w*b o+1*y o)*(aW A.t*B.u*A.t)=x*(aW A.t*(B.t*A.t-w*A.u*B.u)+p*(aW A.t*B.u*A.t))
       rw[lb.at_]
       generalize y o=yo at*
       generalize aW A.t=s
       generalize A.t=t at*
       generalize A.u=u at*
       generalize B.t=t1 at*
       generalize B.u=u1 at*
       have e1:(w*β+1*yo)*(s*u1*t)=s*(w*u1*(β*t)+t*(yo*u1)):=by grind
       have e2:x*(s*(t1*t-w*u*u1)+p*(s*u1*t))=s*(t*(x*(t1+p*u1))-w*u1*(x*u)):=by grind
       simp only[e1,e2,h3,hb]
       grind
   · refine .inr ⟨h1,i,rfl,λj hj=>?_,?_⟩
     · show w*b j+1*y j=0
       rw[lb.z j (by lia),h2 j hj];simp
     · show 0<(w*b i+1*y i)*x
       rw[lb.z i (by lia)];simpa using h3
theorem Ai{a b c a' b' c':Int}(h1:a=a')(h2:b=b')(h3:c=c'):Ct.mk a b c=Ct.mk a' b' c':=by simp only[h1,h2,h3]
noncomputable def tN(n d:Nat)(g:Sq)(o:Nat):Ct:=⟨(d:Int)-o-D0 n g,o,D0 n g⟩
theorem F4{n d:Nat}{f b:Sq}{A:Ac}{oc o:Nat}{β x:Int}(hu:0<A.u)(hb0:β≠0)(K:Zf A oc β o x)(hv:D0 n f=D0 n b+df (aW x) (aW β)):gQ A (tN n d b oc)=tN n (d+1) f o:=by
 delta gQ tN
 rcases K with⟨hh,rfl,hb⟩|⟨hh,ht,rfl,hb⟩|⟨hh,ht,rfl,hb⟩
 · have e:df (aW x) (aW β)=1:=by
    have:aW β*aW x= -1:=by rw[<-sgn_mul,gS hb]
    have key: ∀a∈yX,∀c∈yX,a*c= -1->df c a=1:=by decide+kernel
    exact key _ (eL β) _ (eL x) this
   rw[af hh,hv,e]
   exact Ai (by lia) (by lia) (by lia)
 · have e:df (aW x) (aW β)=0:=by
    have:aW x*aW β=1:=by rw[<-sgn_mul,fQ hb]
    have key: ∀a∈yX,∀c∈yX,a*c=1->df a c=0:=by decide+kernel
    exact key _ (eL x) _ (eL β) this
   rw[aa (by rw[hh];decide),af (by rw[ht];rfl),hv,e]
   exact Ai (by lia) (by lia) (by lia)
 · have e0:aW x*1= -(aW β*aW A.t):=by
    rw[<-fQ hu,<-sgn_mul,hb]
    have: ∀z,aW (-z)= -aW z:=λz=>by
     have:=sgn_mul (-1) z
     rw[show(-1:Int)*z= -z by lia,show aW (-1)= -1 from rfl] at this
     exact RA this
    simp only[this,sgn_mul]
   have htn:aW A.t≠0:=λe=>ht (eW.mp e)
   rw[aa (by rw[hh];decide),aa htn,hv]
   have key: ∀a∈yX,∀c∈yX,∀t∈yX,t≠0->c≠0->a*1= -(c*t)->(t=1/\ df a c=1) \/(t= -1/\ df a c=0):=by decide+kernel
   have hβ:aW β≠0:=λe=>hb0 (eW.mp e)
   rcases key _ (eL x) _ (eL β) _ (eL A.t) htn hβ e0 with⟨h1,h2⟩|⟨h1,h2⟩
   · rw[h1,h2]
     exact Ai (by simp;exact Xe) rfl (rfl)
   · rw[h1,h2]
     exact Ai (by simp;lia) rfl (rfl)
theorem oU(p:Int)(n:Nat): ∀(φ ψ:Fo),φ.pos->ψ.pos->φ.size+ψ.size<=n-> ∃o x,o<=φ.size+ψ.size/\ Ld (PD p φ (G1 p ψ [])).1 o x/\ D4 p (wk p φ) o x (PD p φ (G1 p ψ [])).2/\
 ∀o0 x0,Ld (G1 p ψ []) o0 x0->Hx p φ (tN n ψ.size (G1 p ψ []) o0)=tN n (φ.size+ψ.size) (PD p φ (G1 p ψ [])).1 o
 | .nil,ψ,_,hp,hz=>by
  have ht:=yW p ψ (l:=[]) (λ_ h=>nomatch h)
  obtain⟨o,x,l,ho⟩:=Ni _ ht
  refine⟨o,x,by simp at ho;exact QD ho,l,.inl ⟨rfl,λ_ _=>rfl,?_⟩,λo0 x0 l0=>?_⟩
  · show 0*1=x*(-p+p*1)
    rw[show-p+p*1=0 by lia];simp
  · obtain⟨rfl,rfl⟩:=l.det l0
    show tN n ψ.size _ o=tN n (0+ψ.size) _ o
    rw[Nat.zero_add];rfl
 | .node w c s,ψ,⟨hw,hc,hs⟩,hp,hz=>by
  have Hy:(Fo.node w c s).size=c.size+s.size+1:=rfl
  have Zg:(Fo.node w c ψ).size=c.size+ψ.size+1:=rfl
  have D6:=Fo.fJ s ψ
  refine bk λG hG=>?_
  obtain⟨o,x,ho,lf,S2,_⟩:=oU p n s (.node w c ψ) hs ⟨hw,hc,hp⟩ (WM hz Zg Hy)
  obtain⟨o1,x1,XJ,l1,_,C1⟩:=oU p n s ψ hs hp (VD hz Hy)
  obtain⟨oc,β,hoc,lb,S3,C2⟩:=oU p n c (s.app ψ) hc (Fo.oS hs hp) (WE hz Hy D6)
  refine hG ?_;clear hG G
  have e1:(PD p s (G1 p ψ [])).1=G1 p (s.app ψ) []:=(qi p s ψ _).symm
  have e4:G1 p (.node w c ψ) []=TP p c (G1 p ψ []):=rfl
  simp only[e4,(Ab p c).DH p s (G1 p ψ [])] at lf S2
  have e5:(PD p (.node w c s) (G1 p ψ [])).1=up1 p (PD p c (G1 p (s.app ψ) [])):=by rw[<-e1];rfl
  have e6:TP p c (PD p s (G1 p ψ [])).1=up1 p (PD p c (G1 p (s.app ψ) [])):=by rw[<-e1]
  have hl:qh []:=λ_ h=>nomatch h
  have M:=(Nh p (c.size+(s.app ψ).size)).mp (l:=[]) hc (Fo.oS hs hp) hl (aR _)
  have hM:c.size+(s.app ψ).size+([]:List (Int×Int)).length=c.size+(s.app ψ).size:=rfl
  rw[hM] at M
  have Zh:Ld (up1 p ((PD p c (G1 p (s.app ψ) [])).1,(PD p c (G1 p (s.app ψ) [])).2)) o x:=by
   have:=lf
   simp only[e6] at this
   exact this
  have K:=Jp (D3 p c) lb S3 Zh M hoc
  refine⟨o,x,WN Hy Zg ho,?_,?_,λo0 x0 l0=>?_⟩
  · rw[e5];exact Zh
  · have S2':D4 p (wk p s) o x (TP p c (PD p s (G1 p ψ [])).2):=S2
    have:=BF hw lb K S2'
    have e7:(PD p (.node w c s) (G1 p ψ [])).2=λk=>w*(PD p c (G1 p (s.app ψ) [])).1 k+1*TP p c (PD p s (G1 p ψ [])).2 k:=by rw[<-e1];rfl
    rw[e7];exact this
  · show gQ (wk p c) (Hx p c (Hx p s _))=_
    simp only[C1 o0 x0 l0,e1,<-D6]
    rw[e1] at l1
    rw[C2 o1 x1 l1]
    have b1:=xD p (.node w c (s.app ψ)) []
    have b2:=xD p (c.app (s.app ψ)) []
    have e8:G1 p (c.app (s.app ψ)) []=(PD p c (G1 p (s.app ψ) [])).1:=qi p c _ _
    have t2:=yW p (c.app (s.app ψ)) hl
    rw[e8] at b2 t2
    rw[Fo.fJ] at b2 t2
    have e9:(Fo.node w c (s.app ψ)).size=c.size+(s.app ψ).size+1:=rfl
    have hv:=turn M b1 b2 t2 (n:=n) (WO hz Hy D6) Zh lb (W8 hz Hy Zg ho) (WX hz Hy D6 hoc)
    simp only[e5,F4 (D3 p c) lb.ne K hv,Hy,D6]
    congr 1
    exact Vf
end Mine
end
section
open PySem
open PySem.Builtin.Int
namespace Mine
structure vN(a b q r:Int):Prop where
 e:a=q*b+r
 lo:0<=r
 hi:r<b
theorem vN.det{a b q r q' r':Int}(x:vN a b q r)(y:vN a b q' r'):q=q'/\ r=r':=by
 obtain⟨e1,l1,h1⟩:=x
 obtain⟨e2,l2,h2⟩:=y
 have e3:(q-q')*b=r'-r:=by rw[Int.sub_mul];exact VQ e1 e2
 have hb:0<b:=Qi l1 h1
 have hq:q=q':=by
  rcases Int.lt_trichotomy (q-q') 0 with h|h|h
  · have:(q-q')*b<=(-1)*b:=uG (RM h) (NG hb)
    lia
  · exact JZ h
  · have:1*b<=(q-q')*b:=uG (Rk h) (NG hb)
    lia
 refine⟨hq,?_⟩
 rw[hq] at e1
 exact Ui e1 e2
theorem mj(a:Int){b:Int}(hb:0<b):vN a b (a.fdiv b) (a.fmod b):=
 ⟨by have:=Int.mul_fdiv_add_fmod a b;rw[iy] at this;exact this.symm,iw a hb,jx a hb⟩
theorem ux{b:Int}{n:Nat}(hb:0<b): ∀(l:List Int) (st:De) (A:Int),vN A b (valOf n st.qs.reverse) st.r->
 vN (l.foldl (λa d=>a*2 ^n+d) A) b (valOf n (l.foldl (qb b n) st).qs.reverse) (l.foldl (qb b n) st).r
 |[],_,_,h=>h
 |d::l,st,A,h=>by
  refine ux hb l (qb b n st d) (A*2 ^n+d) ?_
  have k:=mj (st.r*2 ^n+d) hb
  refine⟨?_,k.lo,k.hi⟩
  have e2:valOf n (qb b n st d).qs.reverse=(st.r*2 ^n+d).fdiv b+2 ^n*valOf n st.qs.reverse:=by
   show valOf n (st.qs++[_]).reverse=_
   rw[List.reverse_append];rfl
  rw[e2]
  show _=_+(st.r*2 ^n+d).fmod b
  have k1:=k.e
  have h1:=h.e
  generalize (st.r*2 ^n+d).fdiv b=q at*
  generalize (st.r*2 ^n+d).fmod b=r at*
  generalize valOf n st.qs.reverse=Q at*
  generalize (2:Int) ^n=m at*
  subst h1
  grind
theorem uy(n:Nat): ∀l:List Int,l.foldr (λd a=>a*2 ^n+d) 0=valOf n l
 |[]=>rfl
 |d::l=>by
  rw[List.foldr_cons,uy n l]
  show valOf n l*2 ^n+d=d+2 ^n*valOf n l
  rw[iy];exact Qt
theorem oV(n:Nat):(0:Int)<2 ^n:=Int.pow_pos (by decide)
theorem Aj(n:Nat): ∀(c:Nat) (a:Int),0<=a->a<2 ^(n*c)->valOf n (dF n a c)=a
 |0,a,h,h2=>by
  rw[Nat.mul_zero] at h2
  show(0:Int)=a
  have:(2:Int) ^0=1:=rfl
  exact QE h h2
 |c+1,a,h,h2=>by
  have k:=mj a (oV n)
  have hq:0<=a.fdiv (2 ^n):=Int.fdiv_nonneg h (Int.le_of_lt (oV n))
  have jP:a.fdiv (2 ^n)<2 ^(n*c):=by
   have e:(2:Int) ^(n*(c+1))=2 ^(n*c)*2 ^n:=by rw[Nat.mul_succ,Int.pow_add]
   rw[e] at h2
   have k1:=k.e
   have k2:=k.lo
   refine Int.lt_of_mul_lt_mul_right (a:=2 ^n) ?_ (Int.le_of_lt (oV n))
   exact Uj k2 h2 k1
  show a.fmod (2 ^n)+2 ^n*valOf n (dF n (a.fdiv (2 ^n)) c)=a
  rw[Aj n c _ hq jP]
  have:=k.e
  rw[iy] at this
  exact R5 this
theorem Ak{a b:Int}(ha:0<=a)(hb:0<b):vN a b (mw a b).1 (mw a b).2:=by
 unfold mw gz
 generalize hn:Builtin.Int.intBits b=n
 have BV:1<=n:=by
  rcases Nat.eq_zero_or_pos n with h|h
  · exfalso
    have:=(intBits_le_iff (m:=0) (x:=b)).mp (Qj h hn)
    simp at this;lia
  · exact h
 have k:=ux (n:=n) hb (dF n a (bU a n)).reverse ⟨[],0⟩ 0 ⟨by simp[valOf],cO _,hb⟩
 rw[List.foldl_reverse,uy,Aj n _ a ha ?_] at k
 · exact k
 · have h1:=(intBits_le_iff (m:=Builtin.Int.intBits a) (x:=a)).mp (aR _)
   have h2:Builtin.Int.intBits a<=n*bU a n:=by
    unfold bU
    have:=Nat.div_add_mod (Builtin.Int.intBits a+n-1) n
    have:=Nat.mod_lt (Builtin.Int.intBits a+n-1) BV
    exact Ks (by assumption) this
   have h3:(2:Nat) ^Builtin.Int.intBits a<=2 ^(n*bU a n):=Nat.pow_le_pow_right (by decide) h2
   have h4:((2 ^(n*bU a n):Nat):Int)=2 ^(n*bU a n):=by simp
   rw[<-h4]
   exact UQ h1 h3
theorem F5{a b:Int}(hb:0<b):vN a b (jl a b).1 (jl a b).2:=by
 unfold jl
 by_cases h:a<0
 · rw[af h]
   have k:=Ak (a:=Builtin.bitNot a) (b:=b) (by rw[bitNot_eq];exact Z1 h) hb
   obtain⟨e,l,u⟩:=k
   generalize mw (Builtin.bitNot a) b=d at*
   rw[bitNot_eq] at e
   refine⟨?_,?_,?_⟩
   · show a=Builtin.bitNot d.1*b+(b+Builtin.bitNot d.2)
     rw[bitNot_eq,bitNot_eq]
     generalize d.1=q at*
     generalize d.2=r at*
     have:(-q-1)*b= -(q*b)-b:=by grind
     lia
   · show 0<=b+Builtin.bitNot d.2
     rw[bitNot_eq];exact RN u
   · show b+Builtin.bitNot d.2<b
     rw[bitNot_eq];exact RO l
 · rw[aa h];exact Ak (by exact ZQ h) hb
theorem F6{side x p rest c rest':Int}{row:List Int}(hs:side=1 \/side= -1)(hp:0<x-p)(e:rest=c+(x-p)*rest')(h1:0<=c+x.fdiv 2)(h2:c+x.fdiv 2<x-p):qe side x p (rest,row)=(rest',row++[c]):=by
 have k:vN (rest+x.fdiv 2) (x-p) rest' (c+x.fdiv 2):=⟨by rw[e,iy];exact To,h1,h2⟩
 obtain⟨k1,k2⟩:=(F5 (a:=rest+x.fdiv 2) hp).det k
 unfold qe
 rcases hs with rfl|rfl
 · have e1:k_ (1*(rest+x.fdiv 2)) (1*(x-p))=jl (rest+x.fdiv 2) (x-p):=by
    unfold k_;rw[fc,fc,aa (by exact RP hp)]
   show((k_ _ _).1,row++[1*(k_ _ _).2-x.fdiv 2])=_
   rw[e1,k1,k2,fc,show c+x.fdiv 2-x.fdiv 2=c by lia]
 · have e1:k_ (-1*(rest+x.fdiv 2)) (-1*(x-p))=((jl (rest+x.fdiv 2) (x-p)).1,-(jl (rest+x.fdiv 2) (x-p)).2):=by
    unfold k_
    rw[af (by lia),show-(-1*(rest+x.fdiv 2))=rest+x.fdiv 2 by lia,show-(-1*(x-p))=x-p by lia]
   show((k_ _ _).1,row++[-1*(k_ _ _).2-x.fdiv 2])=_
   rw[e1]
   show(_,row++[-1* -(jl (rest+x.fdiv 2) (x-p)).2-x.fdiv 2])=_
   rw[k1,k2,show-1* -(c+x.fdiv 2)-x.fdiv 2=c by exact SP]
noncomputable def gT(g:Sq)(y:Int)(j:Nat):Nat->Int
 |0=>0
 |c+1=>g j+y*gT g y (j+1) c
theorem D7{side x p:Int}{g:Sq}(hs:side=1 \/side= -1)(hp:0<x-p)(hb: ∀k,0<=g k+x.fdiv 2/\ g k+x.fdiv 2<x-p)(n:Nat): ∀j,j<=n->eK side x p (gT g (x-p) 0 n) j=(gT g (x-p) j (n-j),(List.range j).map g)
 |0,_=>rfl
 |j+1,h=>by
  show qe side x p (eK side x p _ j)=_
  rw[D7 hs hp hb n j (by exact Q4 h)]
  obtain⟨m,hm⟩: ∃m,n-j=m+1:=⟨n-j-1,U9 h⟩
  rw[hm,show gT g (x-p) j (m+1)=g j+(x-p)*gT g (x-p) (j+1) m from rfl,F6 (c:=g j) (rest':=gT g (x-p) (j+1) m) hs hp rfl (hb j).1 (hb j).2,show n-(j+1)=m by exact Uk hm,List.range_succ,dN]
  rfl
end Mine
end
section
namespace Mine
theorem rq(f g:Sq)(a b y:Int): ∀(c j:Nat),gT (λk=>a*f k+b*g k) y j c=a*gT f y j c+b*gT g y j c
 |0,j=>by show(0:Int)=a*0+b*0;simp
 |c+1,j=>by
  show a*f j+b*g j+y*gT _ y (j+1) c=a*(f j+y*gT f y (j+1) c)+b*(g j+y*gT g y (j+1) c)
  rw[rq f g a b y c (j+1)]
  generalize gT f y (j+1) c=u
  generalize gT g y (j+1) c=v
  generalize f j=s
  generalize g j=t
  grind
theorem Al(g:Sq)(y:Int): ∀(c j:Nat),gT (jG g) y (j+1) c=gT g y j c
 |0,_=>rfl
 |c+1,j=>by show g j+y*gT (jG g) y (j+1+1) c=g j+y*gT g y (j+1) c;rw[Al g y c (j+1)]
theorem oW{g:Sq}{y:Int}: ∀(c:Nat) {j:Nat},(∀i,j<=i->g i=0)->gT g y j c=0
 |0,_,_=>rfl
 |c+1,j,h=>by
  show g j+y*gT g y (j+1) c=0
  rw[h j (aR j),oW c λi hi=>h i (by exact Q4 hi)];simp
theorem Am{g:Sq}{y:Int}{n:Nat}(h:Bd n g): ∀(c j m:Nat),n<=j+c->gT g y j (c+m)=gT g y j c
 |0,j,m,hn=>by rw[Nat.zero_add];exact oW m λi hi=>h i (by exact R6 hn hi)
 |c+1,j,m,hn=>by
  rw[show c+1+m=(c+m)+1 by lia]
  show g j+y*gT g y (j+1) (c+m)=g j+y*gT g y (j+1) c
  rw[Am h c (j+1) m (Ul hn)]
theorem D8{g:Sq}{y:Int}{n N:Nat}(h:Bd n g)(hN:n+1<=N):gT (jG g) y 0 N=y*gT g y 0 N:=by
 obtain⟨M,rfl⟩: ∃M,N=M+1:=⟨N-1,OH hN⟩
 have e:=Am (y:=y) h M 0 1 (R7 hN)
 show 0+y*gT (jG g) y 1 M=y*gT g y 0 (M+1)
 rw[Al,e];simp
theorem An{p y:Int}{b D:Sq}{n N:Nat}(h:Bd n b)(hN:n+1<=N):gT (up1 p (b,D)) y 0 N=(y+p)*gT b y 0 N-gT D y 0 N:=by
 have e:up1 p (b,D)=λk=>1*(λk=>1*jG b k+p*b k) k+ -1*D k:=rfl
 rw[e,rq,rq,D8 h hN]
 generalize gT b y 0 N=u
 generalize gT D y 0 N=v
 grind
noncomputable def vP(X:Int):Fo->Int×Int
 | .nil=>(1,0)
 | .node w c s=>((X*(vP X c).1-(vP X c).2)*(vP X s).1,w*(vP X c).1*(vP X s).1+(X*(vP X c).1-(vP X c).2)*(vP X s).2)
theorem Ao(p y:Int): ∀(φ:Fo) (n:Nat) (g:Sq) (N:Nat),Bd (n+1) g->n+1+φ.size<=N->
 gT (PD p φ g).1 y 0 N=(vP (y+p) φ).1*gT g y 0 N/\ gT (PD p φ g).2 y 0 N=(vP (y+p) φ).2*gT g y 0 N
 | .nil,n,g,N,_,_=>⟨by show _=1*_;rw[fc];rfl,by
  show gT (λ_=>0) y 0 N=0*_
  rw[oW N λ_ _=>rfl,gF]⟩
 | .node w c s,n,g,N,hb,hN=>by
  have hz:(Fo.node w c s).size=c.size+s.size+1:=rfl
  obtain⟨b1,b2,_⟩:=oR p s n g hb
  obtain⟨s1,s2⟩:=Ao p y s n g N hb (Wc hN hz)
  have b1':Bd (n+s.size+1) (PD p s g).1:=b1.le (J4)
  have Om:Bd (n+s.size+1) (PD p s g).2:=b2.le (Rq)
  obtain⟨c1,c2⟩:=Ao p y c (n+s.size) _ N b1' (KQ hN hz)
  obtain⟨d1,d2⟩:=Ao p y c (n+s.size) _ N Om (KQ hN hz)
  have k1:=(oR p c (n+s.size) _ b1').1
  have k2:=(oR p c (n+s.size) _ Om).1
  have u1:gT (up1 p (PD p c (PD p s g).1)) y 0 N=_:=An (D:=(PD p c (PD p s g).1).2) k1 (KR hN hz)
  have u2:gT (up1 p (PD p c (PD p s g).2)) y 0 N=_:=An (D:=(PD p c (PD p s g).2).2) k2 (KR hN hz)
  constructor
  · show gT (up1 p (PD p c (PD p s g).1)) y 0 N=((y+p)*(vP (y+p) c).1-(vP (y+p) c).2)*(vP (y+p) s).1*gT g y 0 N
    rw[u1,c1,c2,s1]
    grind
  · show gT (λk=>w*(PD p c (PD p s g).1).1 k+1*up1 p (PD p c (PD p s g).2) k) y 0 N=(w*(vP (y+p) c).1*(vP (y+p) s).1+((y+p)*(vP (y+p) c).1-(vP (y+p) c).2)*(vP (y+p) s).2)*gT g y 0 N
    rw[rq,u2,d1,d2,c1,s1,s2]
    generalize gT g y 0 N=e
    grind
noncomputable def Fo.small:Fo->Prop
 | .nil=>True
 | .node w c s=>w.natAbs<=54/\ c.small/\ s.small
noncomputable abbrev Mx(m:Nat)(g:Sq):Prop:=∀k,(g k).natAbs<=m
theorem Aq{a b:Int}{m n:Nat}(ha:a.natAbs<=m)(hb:b.natAbs<=n):(a*b).natAbs<=m*n:=by
 rw[Int.natAbs_mul];exact Nat.mul_le_mul ha hb
theorem D9{p:Int}{b D:Sq}{m d:Nat}(hp:p.natAbs<=24)(h1:Mx m b)(h2:Mx d D):Mx (25*m+d) (up1 p (b,D)):=λk=>by
 rw[qj]
 have a1:(jG b k).natAbs<=m:=match k with
  |0=>by show(0:Int).natAbs<=m;simp
  |k+1=>h1 k
 have a2:=Aq hp (h1 k)
 have a3:=h2 k
 generalize p*b k=z at*
 exact Xm a2 a1 a3
theorem As{p:Int}(hp:p.natAbs<=24): ∀(φ:Fo) (g:Sq) (m:Nat),φ.small->φ.size<=39->Mx m g->Mx (64 ^φ.size*m) (PD p φ g).1/\ Mx (φ.size*(64 ^φ.size*m)) (PD p φ g).2
 | .nil,g,m,_,_,h=>⟨λk=>by show(g k).natAbs<=1*m;rw[Nat.one_mul];exact h k,λk=>by show(0:Int).natAbs<=_;simp⟩
 | .node w c s,g,m,⟨hw,hc,hs⟩,hz,h=>by
  have qZ:c.size+s.size+1<=39:=hz
  obtain⟨s1,s2⟩:=As hp s g m hs (Rl qZ) h
  obtain⟨c1,c2⟩:=As hp c _ _ hc (OF qZ) s1
  obtain⟨d1,d2⟩:=As hp c _ _ hc (OF qZ) s2
  have e:64 ^(Fo.node w c s).size*m=64*(64 ^c.size*(64 ^s.size*m)):=by
   show 64 ^(c.size+s.size+1)*m=_
   rw[Nat.pow_succ,Nat.pow_add]
   generalize 64 ^c.size=A
   generalize 64 ^s.size=S
   grind
  rw[e]
  generalize 64 ^c.size=A at*
  generalize 64 ^s.size=S at*
  have up {z:Nat}:25*(A*z)+c.size*(A*z)<=64*(A*z):=by
   have:c.size*(A*z)<=39*(A*z):=lz _ (OF qZ)
   exact Ut this
  refine⟨λk=>?_,λk=>?_⟩
  · have:=D9 hp c1 c2 k
    exact aX this up
  · have k1:=D9 hp d1 d2 k
    have k2:=aX k1 up
    have k3:=Aq hw (c1 k)
    show(w*(PD p c (PD p s g).1).1 k+1*up1 p (PD p c (PD p s g).2) k).natAbs<=(c.size+s.size+1)*(64*(A*(S*m)))
    have e2:64*(A*(s.size*(S*m)))=s.size*(64*(A*(S*m))):=by grind
    rw[e2] at k2
    have k2':(up1 p (PD p c (PD p s g).2) k).natAbs<=s.size*(64*(A*(S*m))):=k2
    have e3:(c.size+s.size+1)*(64*(A*(S*m)))=c.size*(64*(A*(S*m)))+s.size*(64*(A*(S*m)))+64*(A*(S*m)):=by grind
    rw[e3]
    generalize up1 p (PD p c (PD p s g).2) k=u at*
    generalize w*(PD p c (PD p s g).1).1 k=v at*
    generalize A*(S*m)=z at*
    generalize s.size*(64*z)=z2 at*
    have:0<=c.size*(64*z):=gi _
    exact Xk k3 k2
noncomputable def F7(ds:List Int):List (List Int):=(List.range (ds.getD (ds.length-1) 0+1).toNat).map λ(i:Nat)=>ds++[1+Int.ofNat i]
noncomputable def vO:Nat->List (List Int)
 |0=>[[0]]
 |n+1=>(vO n).flatMap F7
noncomputable def BG(due nums:List Int):Nat->Nat->Fo
 |0,_=>.nil
 |f+1,k=>((List.range 6).filter λj=>due.getD j 0==(k:Int)).foldr (λj s=>.node (nums.getD j 0) (BG due nums f j) s) .nil
noncomputable def EK(x:Int):Fo->Int×Int->Int×Int
 | .nil,a=>a
 | .node w c s,a=>EK x s (a.1*(x*(EK x c (0,1)).2-(EK x c (0,1)).1)+w*(EK x c (0,1)).2*a.2,a.2*(x*(EK x c (0,1)).2-(EK x c (0,1)).1))
theorem y_(x:Int): ∀(φ:Fo) (a:Int×Int),EK x φ a=(a.1*(vP x φ).1+a.2*(vP x φ).2,a.2*(vP x φ).1)
 | .nil,a=>by
  show a=(a.1*1+a.2*0,a.2*1)
  simp
 | .node w c s,a=>by
  show EK x s _=_
  rw[y_ x s,y_ x c]
  show(_,_)=(a.1*((x*(vP x c).1-(vP x c).2)*(vP x s).1)+a.2*(w*(vP x c).1*(vP x s).1+(x*(vP x c).1-(vP x c).2)*(vP x s).2),a.2*((x*(vP x c).1-(vP x c).2)*(vP x s).1))
  simp only[gF,fc,iz]
  congr 1
  · grind
  · grind
noncomputable def D_(due:List Int):List Int:=(List.range 6).map λk=>(BG due [] 6 k).size+1
theorem BH:(vO 5).map (λds n0 n1 n2 n3 n4 n5 x=>gx (D_ (a_ ds)) [n0,n1,n2,n3,n4,n5] x)=
 (vO 5).map λds n0 n1 n2 n3 n4 n5 x=>x*(EK x (BG (a_ ds) [n0,n1,n2,n3,n4,n5] 6 0) (0,1)).2-(EK x (BG (a_ ds) [n0,n1,n2,n3,n4,n5] 6 0) (0,1)).1:=by kernel_rfl
structure PA where
 ac:Nat->Ac
 ct:Ct
noncomputable def Au(due nums:List Int)(st:PA)(k:Nat):PA:=
 ⟨λi=>if i=dB (due.getD k 0) 6 then dW (nums.getD k 0) (st.ac k) (st.ac i) else st.ac i,gQ (st.ac k) st.ct⟩
noncomputable def BI(due nums:List Int)(p:Int):Ct:=([5,4,3,2,1,0].foldl (Au due nums) ⟨λ_=>⟨-p,1,false⟩,⟨0,0,0⟩⟩).ct
theorem F8:(vO 5).map (λds n0 n1 n2 n3 n4 n5 p=>BI (a_ ds) [n0,n1,n2,n3,n4,n5] p)=
 (vO 5).map λds n0 n1 n2 n3 n4 n5 p=>gQ (wk p (BG (a_ ds) [n0,n1,n2,n3,n4,n5] 6 0)) (Hx p (BG (a_ ds) [n0,n1,n2,n3,n4,n5] 6 0) ⟨0,0,0⟩):=by kernel_rfl
end Mine
end
section
open PySem PySem.W PyProof.Rows PySem.Challenge
open Builtin.Int
namespace Mine
structure F9(st:vC)(a:PA):Prop where
 lt:st.bY.length=6
 lu:st.bI.length=6
 lh:st.held.length=6
 at_: ∀i,i<6->st.bY.getD i 0=(a.ac i).t/\ st.bI.getD i 0=(a.ac i).u/\ st.held.getD i false=(a.ac i).h
 ct:a.ct=⟨st.c0,st.c1,st.c2⟩
theorem qk{α:Type}(l:List α)(i j:Nat)(v d:α)(h:j<l.length):(l.set i v).getD j d=if j=i then v else l.getD j d:=by
 rw[bM,List.getElem?_set,bM]
 by_cases e:i=j
 · rw[e]
   rw[af rfl,af h,af rfl];rfl
 · rw[aa e,aa λq=>e q.symm]
theorem BJ{due nums:List Int}{st:vC}{a:PA}{k:Nat}(R:F9 st a)(hk:k<6)(hu:dB (due.getD k 0) 6<6)(hn:nums.length=6):F9 (fq due nums st k) (Au due nums a k):=by
 refine bk λG hG=>?_
 obtain⟨l1,l2,l3,h,hc⟩:=R
 obtain⟨k1,k2,k3⟩:=h k hk
 obtain⟨u1,u2,u3⟩:=h _ hu
 refine hG ?_;clear hG G
 unfold fq Au
 rw[hn]
 generalize dB (due.getD k 0) 6=u at*
 by_cases c1:(a.ac k).h=true
 · rw[af (k3.trans c1)]
   refine⟨l1,l2,l3,λi hi=>?_,?_⟩
   · show _=(if i=u then dW (nums.getD k 0) (a.ac k) (a.ac i) else a.ac i).t/\ _=(if i=u then dW (nums.getD k 0) (a.ac k) (a.ac i) else a.ac i).u/\ _=(if i=u then dW (nums.getD k 0) (a.ac k) (a.ac i) else a.ac i).h
     have e:dW (nums.getD k 0) (a.ac k) (a.ac i)=a.ac i:=af c1
     rw[e,ite_self]
     exact h i hi
   · show gQ (a.ac k) a.ct=_
     unfold gQ
     rw[af c1,hc]
 · rw[aa λq=>c1 (k3.symm.trans q)]
   by_cases c2:aW (a.ac k).t=0
   · rw[af (by rw[k1];exact c2)]
     refine⟨l1,l2,by simpa using l3,λi hi=>?_,?_⟩
     · show _=(if i=u then dW (nums.getD k 0) (a.ac k) (a.ac i) else a.ac i).t/\ _=(if i=u then dW (nums.getD k 0) (a.ac k) (a.ac i) else a.ac i).u/\ (st.held.set u true).getD i false=(if i=u then dW (nums.getD k 0) (a.ac k) (a.ac i) else a.ac i).h
       have e:dW (nums.getD k 0) (a.ac k) (a.ac i)={a.ac i with h:=true}:=by unfold dW;rw[aa c1,af c2]
       obtain⟨i1,i2,i3⟩:=h i hi
       rw[e,qk _ _ _ _ _ (by rw[l3];exact hi)]
       by_cases q:i=u
       · rw[af q,af q];exact⟨i1,i2,rfl⟩
       · rw[aa q,aa q];exact⟨i1,i2,i3⟩
     · show gQ (a.ac k) a.ct=_
       unfold gQ
       rw[aa c1,af c2,hc]
   · rw[aa (by rw[k1];exact c2)]
     refine⟨by simpa using l1,by simpa using l2,l3,λi hi=>?_,?_⟩
     · have e:dW (nums.getD k 0) (a.ac k) (a.ac i)={a.ac i with t:=aW (a.ac k).t*((a.ac i).t*(a.ac k).t-nums.getD k 0*(a.ac k).u*(a.ac i).u),u:=aW (a.ac k).t*(a.ac i).u*(a.ac k).t}:=by unfold dW;rw[aa c1,aa c2]
       obtain⟨i1,i2,i3⟩:=h i hi
       show(st.bY.set u _).getD i 0=(if i=u then dW (nums.getD k 0) (a.ac k) (a.ac i) else a.ac i).t/\ (st.bI.set u _).getD i 0=(if i=u then dW (nums.getD k 0) (a.ac k) (a.ac i) else a.ac i).u/\ st.held.getD i false=(if i=u then dW (nums.getD k 0) (a.ac k) (a.ac i) else a.ac i).h
       rw[e,qk _ _ _ _ _ (by rw[l1];exact hi),qk _ _ _ _ _ (by rw[l2];exact hi)]
       by_cases q:i=u
       · subst q
         rw[af rfl,af rfl,af rfl,k1,k2,u1,u2]
         exact⟨rfl,rfl,i3⟩
       · rw[aa q,aa q,aa q];exact⟨i1,i2,i3⟩
     · show gQ (a.ac k) a.ct=_
       unfold gQ
       rw[aa c1,aa c2,hc,k1]
theorem xF{due nums:List Int}(hn:nums.length=6)(hu: ∀k,k<6->dB (due.getD k 0) 6<6): ∀(l:List Nat) (st:vC) (a:PA),(∀k∈l,k<6)->F9 st a->F9 (l.foldl (fq due nums) st) (l.foldl (Au due nums) a)
 |[],_,_,_,R=>R
 |k::l,st,a,hl,R=>xF hn hu l _ _ (λj hj=>hl j (.tail _ hj)) (BJ R (hl k (.head _)) (hu k (hl k (.head _))) hn)
theorem za{due:List Int}{n0 n1 n2 n3 n4 n5 p:Int}(hd:due.length=6)(hu: ∀k,k<6->dB (due.getD k 0) 6<6):
 ir due [n0,n1,n2,n3,n4,n5] p=[(BI due [n0,n1,n2,n3,n4,n5] p).c0,(BI due [n0,n1,n2,n3,n4,n5] p).c1,(BI due [n0,n1,n2,n3,n4,n5] p).c2]:=by
 have R:=xF (due:=due) (nums:=[n0,n1,n2,n3,n4,n5]) rfl hu [5,4,3,2,1,0] ⟨[-p,-p,-p,-p,-p,-p],[1,1,1,1,1,1],[false,false,false,false,false,false],0,0,0⟩ ⟨λ_=>⟨-p,1,false⟩,⟨0,0,0⟩⟩ (by decide) ⟨rfl,rfl,rfl,nJ ⟨rfl,rfl,rfl⟩ (nJ ⟨rfl,rfl,rfl⟩ (nJ ⟨rfl,rfl,rfl⟩ (nJ ⟨rfl,rfl,rfl⟩ (nJ ⟨rfl,rfl,rfl⟩ (nJ ⟨rfl,rfl,rfl⟩ JY))))),rfl⟩
 have e:lH due [n0,n1,n2,n3,n4,n5] p (List.range due.length).reverse=[5,4,3,2,1,0].foldl (fq due [n0,n1,n2,n3,n4,n5]) ⟨[-p,-p,-p,-p,-p,-p],[1,1,1,1,1,1],[false,false,false,false,false,false],0,0,0⟩:=by rw[hd];rfl
 unfold ir
 rw[e]
 have hc:=R.ct
 unfold BI
 rw[hc]
noncomputable def chg:List Bool->Nat
 |a::b::r=>(if a=b then 0 else 1)+chg (b::r)
 |_=>0
theorem uz: ∀u:List Bool,ju u=chg u
 |[]=>rfl
 |[_]=>rfl
 |a::b::r=>by
  have ih:=uz (b::r)
  unfold ju at ih ⊢
  simp only[show(a::b::r).length-1=r.length+1 from rfl,List.range_succ_eq_map,ko]
  have e:((List.map Nat.succ (List.range r.length)).filter λi=>!((a::b::r).getD (1+i) false==(a::b::r).getD (1+i-1) false))=((List.range r.length).filter λi=>!((b::r).getD (1+i) false==(b::r).getD (1+i-1) false)).map Nat.succ:=by
   rw[List.filter_map]
   congr 1
   refine List.filter_congr λi _=>?_
   show(!((a::b::r).getD (1+(i+1)) false==(a::b::r).getD (1+(i+1)-1) false))=_
   rw[show 1+(i+1)=(1+i)+1 by exact Rr,show 1+i+1-1=(1+i-1)+1 by exact Tp];rfl
  rw[e]
  have h0:(!((a::b::r).getD (1+0) false==(a::b::r).getD (1+0-1) false))= !(b==a):=rfl
  rw[h0]
  show _=(if a=b then 0 else 1)+chg (b::r)
  rw[<-ih]
  by_cases q:a=b
  · rw[af q,aa (by rw[q];simp),aM,Nat.zero_add];rfl
  · rw[aa q,af (by simpa using λh=>q h.symm),eF,aM,Nat.add_comm];rfl
noncomputable def hdS:List Bool->Int
 |[]=>0
 |true::_=>1
 |false::_=> -1
theorem Av: ∀l:List Int,ki l=(hdS (gD l),chg (gD l))
 |[]=>rfl
 |x::l=>by
  show BE x (ki l)=_
  rw[Av l]
  unfold BE
  by_cases h:x=0
  · rw[af h]
    have:gD (x::l)=gD l:=by subst h;rfl
    rw[this]
  · rw[aa h]
    have:gD (x::l)=decide (256<=255+x)::gD l:=by
     unfold gD
     rw[ko,af (by simpa using h)];rfl
    rw[this]
    generalize gD l=u
    rcases Int.lt_or_gt_of_ne h with q|q
    · rw[gS q,decide_eq_false (QN q)]
      match u with
      |[]=>rfl
      |true::r=>show(-1,(if((1:Int)≠0/\ (1:Int)≠ -1) then chg (true::r)+1 else chg (true::r)))=((-1:Int),(if false=true then 0 else 1)+chg (true::r));rw[af (by decide),aa (by decide),Nat.add_comm]
      |false::r=>show(-1,(if((-1:Int)≠0/\ (-1:Int)≠ -1) then chg (false::r)+1 else chg (false::r)))=((-1:Int),(if false=false then 0 else 1)+chg (false::r));rw[aa (by decide),af rfl,Nat.zero_add]
    · rw[fQ q,decide_eq_true (Qk q)]
      match u with
      |[]=>rfl
      |true::r=>show(1,(if((1:Int)≠0/\ (1:Int)≠1) then chg (true::r)+1 else chg (true::r)))=((1:Int),(if true=true then 0 else 1)+chg (true::r));rw[aa (by decide),af rfl,Nat.zero_add]
      |false::r=>show(1,(if((-1:Int)≠0/\ (-1:Int)≠1) then chg (false::r)+1 else chg (false::r)))=((1:Int),(if true=false then 0 else 1)+chg (false::r));rw[af (by decide),aa (by decide),Nat.add_comm]
theorem BK(g:Sq):ju (gD [g 0,g 1,g 2,g 3,g 4,g 5,g 6])=D0 6 g:=by
 have e:seg g 0 (6+1)=[g 0,g 1,g 2,g 3,g 4,g 5,g 6]:=rfl
 unfold D0
 simp only[e,Av,uz]
theorem Ea{due nums:List Int}(h: ∀j,j<6->7<=nums.getD j 0/\ nums.getD j 0<=54): ∀f k,(BG due nums f k).pos/\ (BG due nums f k).small
 |0,_=>⟨trivial,trivial⟩
 |f+1,k=>by
  have key: ∀l:List Nat,(∀j∈l,j<6)->(l.foldr (λj s=>Fo.node (nums.getD j 0) (BG due nums f j) s) .nil).pos/\ (l.foldr (λj s=>Fo.node (nums.getD j 0) (BG due nums f j) s) .nil).small:=by
   intro l hl
   induction l with
   |nil=>exact⟨trivial,trivial⟩
   |cons j l ih=>
    obtain⟨i1,i2⟩:=ih λi hi=>hl i (.tail _ hi)
    obtain⟨k1,k2⟩:=Ea h f j
    obtain⟨h1,h2⟩:=h j (hl j (.head _))
    exact⟨⟨OY h1,k1,i1⟩,⟨Sm h1 h2,k2,i2⟩⟩
  exact key _ λj hj=>bS.mp (fh.mp hj).1
theorem Eb:(vO 5).map (λds n0 n1 n2 n3 n4 n5=>(BG (a_ ds) [n0,n1,n2,n3,n4,n5] 6 0).size)=(vO 5).map λ_ _ _ _ _ _ _=>5:=by kernel_rfl
theorem F_:(vO 5).all (λds=>(a_ ds).length==6&&(List.range 6).all λk=>decide (dB ((a_ ds).getD k 0) 6<6))=true:=by decide+kernel
theorem Jq(t:Int):2 ^40<=tM t:=by
 have h1:=iw t (show(0:Int)<700 by decide)
 unfold tM
 obtain⟨m,hm⟩: ∃m,(40+t.fmod 700).toNat=40+m:=⟨(t.fmod 700).toNat,U_ h1⟩
 rw[hm,Int.pow_add]
 have:=oV m
 have h2:(2:Int) ^40*1<=2 ^40*2 ^m:=Int.mul_le_mul_of_nonneg_left (OZ this) (by decide)
 exact RB this
theorem xG{g:Sq}{y:Int}(hg: ∀k,Bt 40 (g k))(hy:Bt 801 y): ∀c j,Bt (900*c) (gT g y j c)
 |0,j=>by show intBits 0<=0;decide
 |c+1,j=>by
  have h1:=intBits_mul_le hy (xG hg hy c (j+1))
  have h2:=intBits_add_le (hg j) h1
  show intBits (g j+y*gT g y (j+1) c)<=_
  exact VY h2
theorem Ga{x c p:Int}(hx:2 ^40<=x)(hc:c.natAbs<=2 ^36)(hp:p.natAbs<=24):0<=c+x.fdiv 2/\ c+x.fdiv 2<x-p:=by
 have k:=mj x (b:=2) (by decide)
 obtain⟨e,l,u⟩:=k
 have h1:(2:Int) ^40=1099511627776:=by decide
 have h2:(2:Nat) ^36=68719476736:=by decide
 generalize x.fdiv 2=q at*
 generalize x.fmod 2=r at*
 exact Xq hx hc hp l u e
theorem xH(g:Sq){j:Nat}(h:j<7):[g 0,g 1,g 2,g 3,g 4,g 5,g 6].getD j 0=g j:=(nJ rfl (nJ rfl (nJ rfl (nJ rfl (nJ rfl (nJ rfl (nJ rfl JY)))))): ∀j,j<7->[g 0,g 1,g 2,g 3,g 4,g 5,g 6].getD j 0=g j) j h
theorem dfx{ds:List Int}(jK:ds∈vO 5){n0 n1 n2 n3 n4 n5 side total p:Int}(hn: ∀j,j<6->7<=[n0,n1,n2,n3,n4,n5].getD j 0/\ [n0,n1,n2,n3,n4,n5].getD j 0<=54)(hs:side=1 \/side= -1)(hp:p.natAbs<=24):
 ∃a,JN [n0,n1,n2,n3,n4,n5] (a_ ds) (gx (D_ (a_ ds)) [n0,n1,n2,n3,n4,n5] (tM total)) side (tM total) p a:=by
 have hsz:(BG (a_ ds) [n0,n1,n2,n3,n4,n5] 6 0).size=5:=congrFun (congrFun (congrFun (congrFun (congrFun (congrFun (List.map_inj_left.mp Eb ds jK) n0) n1) n2) n3) n4) n5
 have hw:gx (D_ (a_ ds)) [n0,n1,n2,n3,n4,n5] (tM total)=_:=congrFun (congrFun (congrFun (congrFun (congrFun (congrFun (congrFun (List.map_inj_left.mp BH ds jK) n0) n1) n2) n3) n4) n5) (tM total)
 have Oc:BI (a_ ds) [n0,n1,n2,n3,n4,n5] p=_:=congrFun (congrFun (congrFun (congrFun (congrFun (congrFun (congrFun (List.map_inj_left.mp F8 ds jK) n0) n1) n2) n3) n4) n5) p
 obtain⟨cp,cs⟩:=Ea (due:=a_ ds) hn 6 0
 have Jr:=dM.mp F_ ds jK
 rw[cY] at Jr
 have mq:(a_ ds).length=6:=of_decide_eq_true Jr.1
 have N3: ∀k,k<6->dB ((a_ ds).getD k 0) 6<6:=λk hk=>by simpa using dM.mp Jr.2 k (bS.mpr hk)
 generalize BG (a_ ds) [n0,n1,n2,n3,n4,n5] 6 0=c at*
 have hx:=Jq total
 have hxb:=yQ total
 generalize tM total=x at*
 let φ:Fo:=.node 1 c .nil
 let g:Sq:=G1 p φ []
 have HA:φ.size=6:=by show c.size+0+1=6;exact Ql hsz
 have Zi:φ.pos:=⟨by decide,cp,trivial⟩
 have Zj:φ.small:=⟨by decide,cs,trivial⟩
 have hgb:Bd 7 g:=by have:=xD p φ [];rw[HA] at this;exact this
 have hg6:g 6=1:=by
  have:=(oR p φ 0 one nH).2.2
  rw[HA] at this;exact this
 have Oh:Mx (2 ^36) g:=by
  have:=(As hp φ one 1 Zj (O6 HA) λk=>by show(if k=0 then(1:Int) else 0).natAbs<=1;split<;>decide).1
  rw[HA] at this;exact this
 have hb:=λk=>Ga hx (Oh k) hp
 have hY:0<x-p:=by
  have h1:(2:Int) ^40=1099511627776:=by decide
  exact UR hx hp
 have hev:gx (D_ (a_ ds)) [n0,n1,n2,n3,n4,n5] x=gT g (x-p) 0 7:=by
  simp only[hw,y_]
  have e1:=(Ao p (x-p) φ 0 one 7 nH (Qm HA)).1
  have e2:gT one (x-p) 0 7=1:=by
   have:gT one (x-p) 0 7=1+(x-p)*gT one (x-p) 1 6:=rfl
   rw[this,oW 6 λi hi=>nH i hi];simp
  simp only[e2,show x-p+p=x by exact Qu,Int.mul_one] at e1
  show _=gT g (x-p) 0 7
  rw[show gT g (x-p) 0 7=(vP x φ).1 from e1]
  show x*(1*(vP x c).1)-(0*(vP x c).1+1*(vP x c).2)=(x*(vP x c).1-(vP x c).2)*1
  simp
 have yw:=λj (hj:j<=7)=>D7 hs hY hb 7 j hj
 rw[hev]
 generalize hW:gT g (x-p) 0 7=W at*
 have sR:kY side x p W=[g 0,g 1,g 2,g 3,g 4,g 5,g 6]:=by
  unfold kY
  rw[yw 6 (by decide)]
  show[g 0,g 1,g 2,g 3,g 4,g 5]++[g 6+(x-p)*0]=_
  simp
 obtain⟨o,y,ho,lf,_,Oo⟩:=oU p 6 φ .nil Zi trivial (by rw[HA];decide)
 have Oo:=Oo 0 1 ⟨λj hj=>by lia,rfl,by decide⟩
 have ho6:o<=6:=by rw[HA] at ho;exact ho
 have vY:Ld g o y:=lf
 have hc0:Hx p φ ⟨0,0,0⟩=tN 6 6 g o:=by
  have e:tN 6 (Fo.nil).size (G1 p .nil []) 0=⟨0,0,0⟩:=by
   show(⟨(0:Int)-0-(D0 6 one:Int),0,(D0 6 one:Int)⟩:Ct)=_
   have:D0 6 one=0:=by decide
   rw[this];rfl
  rw[e,HA] at Oo
  exact Oo
 have Nj: ∀k,Bt 40 (g k):=λk=>(intBits_le_iff.mpr (Nat.lt_of_le_of_lt (Oh k) (by decide)))
 have hpb:Bt 10 p:=intBits_le_iff.mpr (Nat.lt_of_le_of_lt hp (by decide))
 refine⟨o,?_,?_,?_,?_,?_,?_,?_,hpb,Rm hY⟩
 · rw[yw 6 (by decide)]
   show g 6+(x-p)*0=1
   rw[hg6];simp
 · rw[sR,<-hW]
   show(g 0*(x-p) ^0+(g 1*(x-p) ^1+(g 2*(x-p) ^2+(g 3*(x-p) ^3+(g 4*(x-p) ^4+(g 5*(x-p) ^5+(g 6*(x-p) ^6+0)))))))=g 0+(x-p)*(g 1+(x-p)*(g 2+(x-p)*(g 3+(x-p)*(g 4+(x-p)*(g 5+(x-p)*(g 6+(x-p)*0))))))
   generalize x-p=z
   generalize g 0=a0
   generalize g 1=a1
   generalize g 2=a2
   generalize g 3=a3
   generalize g 4=a4
   generalize g 5=a5
   generalize g 6=a6
   grind
 · rw[sR]
   refine aQ.mpr ⟨o,fh.mpr ⟨bS.mpr (ZL ho6),?_⟩,rfl⟩
   rw[xH g (ZL ho6),vY.at_]
   simpa using vY.ne
 · intro a ha
   rw[sR] at ha
   obtain⟨j,hj,rfl⟩:=aQ.mp ha
   obtain⟨LY,hj2⟩:=fh.mp hj
   have Hv:=bS.mp LY
   rw[xH g (O1 Hv)] at hj2
   have iO:g j≠0:=by simpa using hj2
   have: ¬j<o:=λq=>iO (vY.z j q)
   show(o:Int)<=(j:Int)
   exact SQ this
 · rw[za mq N3,Oc,sR,BK]
   have e:gQ (wk p c) (Hx p c ⟨0,0,0⟩)=tN 6 6 g o:=hc0
   rw[e]
   rfl
 · intro j hj
   rw[yw j (O2 hj)]
   have hyb:Bt 801 (x-p):=by
    have h1:Bt 800 x:=hxb
    have:=intBits_sub_le h1 hpb
    exact aX this (by decide)
   have:=xG Nj hyb (7-j) j
   show intBits _<=90000
   exact aX this (Qv)
 · intro v hv
   rw[sR] at hv
   have key: ∀i,Bt 5000 (g i):=λi=>aX (Nj i) (by decide)
   simp only[aB,ai,or_false] at hv
   rcases hv with rfl|rfl|rfl|rfl|rfl|rfl|rfl<;>exact key _
end Mine
end
section
open PySem PySem.W PyProof.Rows PySem.Challenge
open Builtin.Str
namespace Mine
noncomputable abbrev cl(x:Str):List Nat:=x.cps.toList
theorem sS{x y:Str}(h:cl x=cl y):x=y:=by
 obtain⟨a⟩:=x
 obtain⟨b⟩:=y
 have:a=b:=Array.toList_inj.mp h
 rw[this]
theorem jH(x y:Str):cl (x++y)=cl x++cl y:=by
 show(x.cps++y.cps).toList=_
 rw[Array.toList_append]
theorem cQ(x:Str):(cl x).length=x.length:=gV
theorem zb(l:List Str): ∀a:Array Nat,(l.foldl (λacc p=>acc++(Str.ofString "").cps++p.cps) a).toList=a.toList++l.flatMap cl:=by
 induction l with
 |nil=>intro a;simp
 |cons p l ih=>
  intro a
  simp only[fR,ih,Array.toList_append,Array.toList_append,show(Str.ofString "").cps.toList=[] by decide,ez,List.flatMap_cons,lq]
theorem vQ(l:List Str):cl (Txt.join "" l)=l.flatMap cl:=by
 show((l.drop 1).foldl (λacc p=>acc++(Str.ofString "").cps++p.cps) (l.headD Str.empty).cps).toList=_
 rw[zb]
 cases l with
 |nil=>rfl
 |cons p l=>rfl
theorem foldl_rep(x:Array Nat): ∀(n:Nat) (a:Array Nat),((List.replicate n x).foldl (· ++ ·) a).toList=a.toList++(List.replicate n x.toList).flatten
 |0,a=>by simp
 |n+1,a=>by
  simp only[jz,fR,foldl_rep x n,Array.toList_append,jz,mQ,lq]
theorem zc(x:Str){n:Int}(h:0<=n):cl (Txt.mul x n)=(List.replicate n.toNat (cl x)).flatten:=by
 unfold Txt.mul
 by_cases h1:n<1
 · obtain rfl:n=0:=by exact PX h h1
   rfl
 · rw[aa h1]
   by_cases h2:(n==1||x.length==0)=true
   · rw[af h2]
     rcases Bool.or_eq_true_iff.mp h2 with e|e
     · obtain rfl:n=1:=of_decide_eq_true e
       show cl x=cl x++[]
       rw[ez]
     · have e:x.length=0:=of_decide_eq_true e
       have:cl x=[]:=gh (by rw[cQ];exact e)
       rw[this]
       generalize n.toNat=m
       induction m with
       |zero=>rfl
       |succ m ih=>simp only[jz,mQ,<-ih];rfl
   · rw[aa h2]
     exact foldl_rep x.cps n.toNat #[]
theorem sU(c n:Nat):(List.replicate n [c]).flatten=List.replicate n c:=by
 induction n with
 |zero=>rfl
 |succ n ih=>simp only[jz,mQ,ih];rfl
noncomputable def jd(row:List Int)(tail:Int):List Nat:=row.flatMap (λr=>List.replicate r.toNat 32++[9])++List.replicate tail.toNat 32
theorem Aw{row:List Int}{tail:Int}(hr: ∀r∈row,0<=r)(ht:0<=tail):cl (eT row tail)=jd row tail:=by
 unfold eT jd
 simp only[jH,vQ,zc _ ht,show cl (Str.ofString " ")=[32] by decide,sU]
 congr 1
 rw[List.flatMap_map]
 induction row with
 |nil=>rfl
 |cons r row ih=>
  simp only[List.flatMap_cons,List.flatMap_cons,ih λx hx=>hr x (.tail _ hx)]
  congr 1
  unfold runOf
  simp only[jH,zc _ (hr r (.head _)),show cl (Str.ofString " ")=[32] by decide,sU,show cl (Str.ofString "\t")=[9] by decide]
theorem Ec: ∀(n:Nat) (st:BX),(List.replicate n 32).foldl kG st=⟨st.c,st.b+n,st.n+n,st.nt⟩
 |0,st=>by show st=_;simp
 |n+1,st=>by
  simp only[jz,fR,Ec n]
  show BX.mk st.c (st.b+1+n) (st.n+1+n) st.nt=_
  simp only[show st.b+1+(n:Int)=st.b+((n+1:Nat):Int) by exact Ox,show st.n+1+(n:Int)=st.n+((n+1:Nat):Int) by lia]
structure Cv where
 c0:Int
 c1:Int
 c2:Int
 c3:Int
noncomputable def bV(v:Cv)(r:Int):Cv:=if r=0 then{v with c0:=v.c0+1} else if r=1 then{v with c1:=v.c1+1} else if r=2 then{v with c2:=v.c2+1} else{v with c3:=v.c3+1}
noncomputable def iR(row:List Int):Cv:=row.foldl bV ⟨0,0,0,0⟩
noncomputable def Cv.nn(v:Cv):Prop:=0<=v.c0/\ 0<=v.c1/\ 0<=v.c2/\ 0<=v.c3
noncomputable def Cv.cy(v:Cv)(k1 k2 k3:Int):Int:=v.c0+k1*v.c1+k2*v.c2+k3*v.c3
noncomputable def Cv.nt(v:Cv):Int:=v.cy 1 1 1
noncomputable def Cv.n(v:Cv):Int:=v.cy 2 3 4
noncomputable def Nk(k1 k2 k3 r:Int):Int:=if r=0 then 1 else if r=1 then k1 else if r=2 then k2 else k3
theorem je(v:Cv)(k1 k2 k3 r:Int):(bV v r).cy k1 k2 k3=v.cy k1 k2 k3+Nk k1 k2 k3 r:=by
 obtain⟨a,b,c,d⟩:=v
 unfold bV Nk
 by_cases h0:r=0
 · rw[af h0,af h0]
   show a+1+k1*b+k2*c+k3*d=a+k1*b+k2*c+k3*d+1
   rw[tP a 1,tP _ 1,tP _ 1]
 rw[aa h0,aa h0]
 by_cases h1:r=1
 · rw[af h1,af h1]
   show a+k1*(b+1)+k2*c+k3*d=a+k1*b+k2*c+k3*d+k1
   rw[Int.mul_add,Int.mul_one,<-Int.add_assoc,tP _ k1,tP _ k1]
 rw[aa h1,aa h1]
 by_cases h2:r=2
 · rw[af h2,af h2]
   show a+k1*b+k2*(c+1)+k3*d=a+k1*b+k2*c+k3*d+k2
   rw[Int.mul_add,Int.mul_one,<-Int.add_assoc,tP _ k2]
 rw[aa h2,aa h2]
 show a+k1*b+k2*c+k3*(d+1)=a+k1*b+k2*c+k3*d+k3
 rw[Int.mul_add,Int.mul_one,<-Int.add_assoc]
noncomputable def Cv.list(v:Cv):List Int:=if 0<v.c3 then[v.c0,v.c1,v.c2,v.c3] else if 0<v.c2 then[v.c0,v.c1,v.c2] else if 0<v.c1 then[v.c0,v.c1] else if 0<v.c0 then[v.c0] else[]
theorem Gb{v:Cv}{r:Int}(hv:v.nn):(bV v r).nn:=by
 obtain⟨h0,h1,h2,h3⟩:=hv
 unfold bV
 have up: ∀{x:Int},0<=x->0<=x+1:=λh=>Int.le_add_one h
 by_cases q0:r=0
 · rw[af q0];exact⟨up h0,h1,h2,h3⟩
 rw[aa q0]
 by_cases q1:r=1
 · rw[af q1];exact⟨h0,up h1,h2,h3⟩
 rw[aa q1]
 by_cases q2:r=2
 · rw[af q2];exact⟨h0,h1,up h2,h3⟩
 rw[aa q2];exact⟨h0,h1,h2,up h3⟩
theorem Gd{r:Int}(h:0<=r/\ r<=3):r=0 \/r=1 \/r=2 \/r=3:=by exact Kv h.1 h.2
theorem gU{x:Int}(h:0<=x)(q: ¬0<x):x=0:=bG (Int.not_lt.mp q) h
theorem BL{v:Cv}{r:Int}(hv:v.nn)(hr:0<=r/\ r<=3):lE v.list r=(bV v r).list:=by
 obtain⟨a,b,c,d⟩:=v
 obtain⟨h0,h1,h2,h3⟩:=hv
 have h0:0<=a:=h0
 have h1:0<=b:=h1
 have h2:0<=c:=h2
 have h3:0<=d:=h3
 have up: ∀{x:Int},0<=x->0<x+1:=λh=>Int.lt_add_one_of_le h
 have z0: ¬(0:Int)<0:=by decide
 unfold Cv.list
 rcases Gd hr with rfl|rfl|rfl|rfl
 · show lE (if 0<d then[a,b,c,d] else if 0<c then[a,b,c] else if 0<b then[a,b] else if 0<a then[a] else[]) 0=if 0<d then[a+1,b,c,d] else if 0<c then[a+1,b,c] else if 0<b then[a+1,b] else if 0<a+1 then[a+1] else[]
   by_cases q3:0<d
   · rw[af q3,af q3];rfl
   rw[aa q3,aa q3]
   by_cases q2:0<c
   · rw[af q2,af q2];rfl
   rw[aa q2,aa q2]
   by_cases q1:0<b
   · rw[af q1,af q1];rfl
   rw[aa q1,aa q1,af (up h0)]
   by_cases q0:0<a
   · rw[af q0];rfl
   · rw[aa q0,gU h0 q0];rfl
 · show lE (if 0<d then[a,b,c,d] else if 0<c then[a,b,c] else if 0<b then[a,b] else if 0<a then[a] else[]) 1=if 0<d then[a,b+1,c,d] else if 0<c then[a,b+1,c] else if 0<b+1 then[a,b+1] else if 0<a then[a] else[]
   by_cases q3:0<d
   · rw[af q3,af q3];rfl
   rw[aa q3,aa q3]
   by_cases q2:0<c
   · rw[af q2,af q2];rfl
   rw[aa q2,aa q2,af (up h1)]
   by_cases q1:0<b
   · rw[af q1];rfl
   rw[aa q1,gU h1 q1]
   by_cases q0:0<a
   · rw[af q0];rfl
   · rw[aa q0,gU h0 q0];rfl
 · show lE (if 0<d then[a,b,c,d] else if 0<c then[a,b,c] else if 0<b then[a,b] else if 0<a then[a] else[]) 2=if 0<d then[a,b,c+1,d] else if 0<c+1 then[a,b,c+1] else if 0<b then[a,b] else if 0<a then[a] else[]
   by_cases q3:0<d
   · rw[af q3,af q3];rfl
   rw[aa q3,aa q3,af (up h2)]
   by_cases q2:0<c
   · rw[af q2];rfl
   rw[aa q2,gU h2 q2]
   by_cases q1:0<b
   · rw[af q1];rfl
   rw[aa q1,gU h1 q1]
   by_cases q0:0<a
   · rw[af q0];rfl
   · rw[aa q0,gU h0 q0];rfl
 · show lE (if 0<d then[a,b,c,d] else if 0<c then[a,b,c] else if 0<b then[a,b] else if 0<a then[a] else[]) 3=if 0<d+1 then[a,b,c,d+1] else if 0<c then[a,b,c] else if 0<b then[a,b] else if 0<a then[a] else[]
   rw[af (up h3)]
   by_cases q3:0<d
   · rw[af q3];rfl
   rw[aa q3,gU h3 q3]
   by_cases q2:0<c
   · rw[af q2];rfl
   rw[aa q2,gU h2 q2]
   by_cases q1:0<b
   · rw[af q1];rfl
   rw[aa q1,gU h1 q1]
   by_cases q0:0<a
   · rw[af q0];rfl
   · rw[aa q0,gU h0 q0];rfl
theorem Ge{v:Cv}{r:Int}(hv:v.nn)(hr:0<=r/\ r<=3):lE v.list r=(bV v r).list/\ (bV v r).nn/\ (bV v r).nt=v.nt+1/\ (bV v r).n=v.n+(r+1):=by
 refine⟨BL hv hr,Gb hv,?_,?_⟩
 · unfold Cv.nt
   rw[je]
   rcases Gd hr with rfl|rfl|rfl|rfl<;>rfl
 · unfold Cv.n
   rw[je]
   rcases Gd hr with rfl|rfl|rfl|rfl<;>rfl
noncomputable abbrev qJ(row:List Int):Prop:=∀r∈row,0<=r/\ r<=3
theorem Ed: ∀(row:List Int) (v:Cv),qJ row->v.nn->(row.flatMap λr=>List.replicate r.toNat 32++[9]).foldl kG ⟨v.list,0,v.n,v.nt⟩=⟨(row.foldl bV v).list,0,(row.foldl bV v).n,(row.foldl bV v).nt⟩/\ (row.foldl bV v).nn/\ (row.foldl bV v).nt=v.nt+row.length
 |[],v,_,h=>⟨rfl,h,by simp⟩
 |r::row,v,hr,h=>by
  have hr0:=hr r (.head _)
  refine bk λG hG=>?_
  obtain⟨b1,b2,b3,b4⟩:=Ge h hr0
  obtain⟨i1,i2,i3⟩:=Ed row (bV v r) (λx hx=>hr x (.tail _ hx)) b2
  refine hG ?_;clear hG G
  simp only[List.flatMap_cons,eE,eE,Ec,fR,List.foldl_nil,fR]
  have e:kG ⟨v.list,0+(r.toNat:Int),v.n+(r.toNat:Int),v.nt⟩ 9=⟨(bV v r).list,0,(bV v r).n,(bV v r).nt⟩:=by
   show BX.mk (lE v.list (0+(r.toNat:Int))) 0 (v.n+(r.toNat:Int)+1) (v.nt+1)=_
   simp only[show 0+(r.toNat:Int)=r by exact S8 hr0.1,b1,b3,b4,show v.n+(r.toNat:Int)+1=v.n+(r+1) by lia]
  rw[e]
  refine⟨i1,i2,?_⟩
  simp only[i3,b3,eF];exact Ox
theorem vR{row:List Int}{tail:Int}(hr:qJ row)(ht:0<=tail):bx (jd row tail)=⟨(iR row).list,tail,(iR row).n+tail,(iR row).nt⟩/\ (iR row).nn/\ (iR row).nt=row.length:=by
 obtain⟨i1,i2,i3⟩:=Ed row ⟨0,0,0,0⟩ hr ⟨cO _,cO _,cO _,cO _⟩
 refine⟨?_,i2,?_⟩
 · delta bx jd
   have e:(⟨[],0,0,0⟩:BX)=⟨(⟨0,0,0,0⟩:Cv).list,0,(⟨0,0,0,0⟩:Cv).n,(⟨0,0,0,0⟩:Cv).nt⟩:=rfl
   simp only[eE,e,i1,Ec]
   show BX.mk _ (0+(tail.toNat:Int)) (_+(tail.toNat:Int)) _=_
   simp only[show(tail.toNat:Int)=tail by exact Q96 ht,iz];rfl
 · simp only[show iR row=row.foldl bV ⟨0,0,0,0⟩ from rfl,i3]
   exact iz _
structure Line(w:WS)(v:Cv)(t:Int):Prop where
 cnt:w.cnt=v.list
 trail:w.trail=t
 n:w.n=v.n+t
 nt:w.nt=v.nt
 simple:w.simple=decide (v.list.length<=1)
 nn:v.nn
 lo:0<=t
 hi:t<=3
noncomputable def Cv.l1(v:Cv)(t:Int):Int:=v.cy 2 3 4+t
noncomputable def Cv.l2(v:Cv)(t:Int):Int:=2*v.cy 1 2 2+t
noncomputable def Cv.l3(v:Cv)(t:Int):Int:=3*v.cy 1 1 2+t
noncomputable def Cv.l4(v:Cv)(t:Int):Int:=4*v.cy 1 1 1+t
theorem Ef(v:Cv):v.cy 2 3 4=v.cy 1 1 1+(v.c1+2*v.c2+3*v.c3)/\ v.cy 1 2 2=v.cy 1 1 1+(v.c2+v.c3)/\ v.cy 1 1 2=v.cy 1 1 1+v.c3:=by
 unfold Cv.cy
 generalize v.c0=a
 generalize v.c1=b
 generalize v.c2=c
 generalize v.c3=d
 exact Xy
theorem oX{v:Cv}(h:v.nn):(v.list=[v.c0,v.c1,v.c2,v.c3]/\ 0<v.c3) \/(v.list=[v.c0,v.c1,v.c2]/\ v.c3=0/\ 0<v.c2) \/(v.list=[v.c0,v.c1]/\ v.c3=0/\ v.c2=0/\ 0<v.c1) \/
 (v.list=[v.c0]/\ v.c3=0/\ v.c2=0/\ v.c1=0/\ 0<v.c0) \/(v.list=[]/\ v.c3=0/\ v.c2=0/\ v.c1=0/\ v.c0=0):=by
 obtain⟨h0,h1,h2,h3⟩:=h
 unfold Cv.list
 by_cases q3:0<v.c3
 · left;rw[af q3];exact⟨rfl,q3⟩
 right
 rw[aa q3]
 by_cases q2:0<v.c2
 · left;rw[af q2];exact⟨rfl,Q2 h3 q3,q2⟩
 right
 rw[aa q2]
 by_cases q1:0<v.c1
 · left;rw[af q1];exact⟨rfl,Q2 h3 q3,Q2 h2 q2,q1⟩
 right
 rw[aa q1]
 by_cases q0:0<v.c0
 · left;rw[af q0];exact⟨rfl,Q2 h3 q3,Q2 h2 q2,Q2 h1 q1,q0⟩
 right
 rw[aa q0]
 exact⟨rfl,Q2 h3 q3,Q2 h2 q2,Q2 h1 q1,Q2 h0 q0⟩
theorem il4(a b c d:Int):eG [a,b,c,d] 1 (List.range 3)=0+1*b+2*c+3*d/\ eG [a,b,c,d] 2 (List.range 2)=0+1*c+1*d/\ eG [a,b,c,d] 3 (List.range 1)=0+1*d:=⟨by kernel_rfl,by kernel_rfl,by kernel_rfl⟩
theorem il3(a b c:Int):eG [a,b,c] 1 (List.range 2)=0+1*b+2*c/\ eG [a,b,c] 2 (List.range 1)=0+1*c:=⟨by kernel_rfl,by kernel_rfl⟩
theorem il2(a b:Int):eG [a,b] 1 (List.range 1)=0+1*b:=by kernel_rfl
theorem Nl{v:Cv}(h:v.nn):eG v.list 1 (List.range ((v.list.length:Int)-1).toNat)=v.c1+2*v.c2+3*v.c3/\ eG v.list 2 (List.range ((v.list.length:Int)-2).toNat)=v.c2+v.c3/\
 eG v.list 3 (List.range ((v.list.length:Int)-3).toNat)=v.c3/\ eG v.list 4 (List.range ((v.list.length:Int)-4).toNat)=0:=by
 rcases oX h with⟨e,_⟩|⟨e,z3,_⟩|⟨e,z3,z2,_⟩|⟨e,z3,z2,z1,_⟩|⟨e,z3,z2,z1,z0⟩<;>rw[e]
 · obtain⟨i1,i2,i3⟩:=il4 v.c0 v.c1 v.c2 v.c3
   rw[iz,fc] at i1 i2 i3
   rw[fc] at i2
   exact⟨i1,i2,i3,rfl⟩
 · obtain⟨i1,i2⟩:=il3 v.c0 v.c1 v.c2
   rw[iz,fc] at i1 i2
   rw[z3,e_,fB,fB]
   exact⟨i1,i2,rfl,rfl⟩
 · have i1:=il2 v.c0 v.c1
   rw[iz,fc] at i1
   rw[z3,z2,e_,e_,fB,fB,fB]
   exact⟨i1,rfl,rfl,rfl⟩
 · rw[z3,z2,z1];exact⟨rfl,rfl,rfl,rfl⟩
 · rw[z3,z2,z1];exact⟨rfl,rfl,rfl,rfl⟩
theorem Line.M9{w:WS}{v:Cv}{t:Int}(L:Line w v t):dQ w 1=v.l1 t/\ dQ w 2=v.l2 t/\ dQ w 3=v.l3 t/\ dQ w 4=v.l4 t:=by
 obtain⟨i1,i2,i3,i4⟩:=Nl L.nn
 obtain⟨e1,e2,e3⟩:=Ef v
 delta dQ Cv.l1 Cv.l2 Cv.l3 Cv.l4
 simp only[L.cnt,L.trail,L.nt,i1,i2,i3,i4,e1,e2,e3]
 unfold Cv.nt
 refine⟨?_,?_,?_,?_⟩
 · rw[fc,Int.add_comm t,Int.add_comm _ (v.cy 1 1 1)]
 · rw[Int.add_comm t,Int.add_comm _ (v.cy 1 1 1)]
 · rw[Int.add_comm t,Int.add_comm _ (v.cy 1 1 1)]
 · rw[Int.add_comm t,iz]
theorem Line.HB{w:WS}{v:Cv}{t:Int}(L:Line w v t):gC w=max ((v.list.length:Int)-1) t:=by unfold gC;rw[L.cnt,L.trail]
theorem all_range{N:Nat}{p:Nat->Bool}:(List.range N).all p=true↔∀j,j<N->p j=true:=by
 rw[dM]
 exact⟨λh j hj=>h j (bS.mpr hj),λh j hj=>h j (bS.mp hj)⟩
theorem zd(x y:Int):max x y=x \/max x y=y:=by
 rw[Int.max_def]
 by_cases h:x<=y
 · rw[af h];exact .inr rfl
 · rw[aa h];exact .inl rfl
theorem Zk(a b c d:Int):a<=max (max a b) (max c d)/\ b<=max (max a b) (max c d)/\ c<=max (max a b) (max c d)/\ d<=max (max a b) (max c d)/\
 (max (max a b) (max c d)=a \/max (max a b) (max c d)=b \/max (max a b) (max c d)=c \/max (max a b) (max c d)=d):=by
 refine⟨Int.le_trans (kj a b) (kj _ _),Int.le_trans (Int.le_max_right a b) (kj _ _),Int.le_trans (kj c d) (Int.le_max_right _ _),Int.le_trans (Int.le_max_right c d) (Int.le_max_right _ _),?_⟩
 rcases zd (max a b) (max c d) with h|h<;>rw[h]
 · exact(zd a b).imp id .inl
 · exact .inr (.inr (zd c d))
theorem arith1{V U t s:Int}(h:2*V+t<2*U+s)(t0:0<=t)(s1:s<=1):3*V+t<3*U+s/\ 4*V+t<4*U+s:=Xn h t0 s1
theorem arith2{V U t s:Int}(h:3*V+t<3*U+s)(t0:0<=t)(s1:s<=2):4*V+t<4*U+s:=WY h t0 s1
theorem Js{V U t s:Int}(h:V+t<U+s)(t0:0<=t)(s3:s<=3):V<=U↔V+t<U+s/\ 2*V+t<2*U+s/\ 3*V+t<3*U+s/\ 4*V+t<4*U+s:=Xu h t0 s3
theorem uA{v:Cv}(h:v.nn): ∃m:Nat,v.list.length=m/\ m<=4/\ (m<=3->v.c3=0)/\ (m<=2->v.c2=0)/\ (m<=1->v.c1=0):=by
 rcases oX h with⟨e,_⟩|⟨e,z3,_⟩|⟨e,z3,z2,_⟩|⟨e,z3,z2,z1,_⟩|⟨e,z3,z2,z1,z0⟩<;>rw[e]
 · exact⟨4,rfl,aR _,λh=>absurd h (by decide),λh=>absurd h (by decide),λh=>absurd h (by decide)⟩
 · exact⟨3,rfl,by decide,λ_=>z3,λh=>absurd h (by decide),λh=>absurd h (by decide)⟩
 · exact⟨2,rfl,by decide,λ_=>z3,λ_=>z2,λh=>absurd h (by decide)⟩
 · exact⟨1,rfl,by decide,λ_=>z3,λ_=>z2,λ_=>z1⟩
 · exact⟨0,rfl,by decide,λ_=>z3,λ_=>z2,λ_=>z1⟩
theorem three{M:Int}(h:1<=M)(h':M<=3):M=1 \/M=2 \/M=3:=TR h h'
theorem rt{m:Nat}{M:Int}{q:Nat}(g:(m:Int)-1<=M)(e:M=q):m<=q+1:=Vw g e
theorem Jt{M:Int}{m k:Nat}{t s:Int}(g1:(m:Int)-1<=M)(g2:t<=M)(g3:(k:Int)-1<=M)(g4:s<=M)(g5:M=(m:Int)-1 \/M=t \/M=(k:Int)-1 \/M=s)(hm:m<=4)(hk:k<=4)(t3:t<=3)(s3:s<=3)(h2: ¬(m<=1/\ k<=1)):
 ((M+1+1-2).toNat=1/\ m<=2/\ k<=2/\ s<=1) \/((M+1+1-2).toNat=2/\ m<=3/\ k<=3/\ s<=2) \/(M+1+1-2).toNat=3:=by
 have cm: ∀{m:Nat},m<=4->(m:Int)-1<=3:=λh=>QF h
 have h5:M<=3:=by
  rcases g5 with h|h|h|h<;>rw[h]
  · exact cm hm
  · exact t3
  · exact cm hk
  · exact s3
 have h6:1<=M:=by
  refine Int.not_lt.mp λq=>h2 ⟨?_,?_⟩
  · omega
  · omega
 rcases three h6 h5 with rfl|rfl|rfl
 · exact .inl ⟨rfl,rt g1 (q:=1) rfl,rt g3 (q:=1) rfl,g4⟩
 · exact .inr (.inl ⟨rfl,rt g1 (q:=2) rfl,rt g3 (q:=2) rfl,g4⟩)
 · exact .inr (.inr rfl)
theorem sV{w z:WS}{v u:Cv}{t s:Int}(A:Line w v t)(B:Line z u s):h_ w z=true↔v.l1 t<u.l1 s/\ v.l2 t<u.l2 s/\ v.l3 t<u.l3 s/\ v.l4 t<u.l4 s:=by
 obtain⟨_,a2,a3,a4⟩:=A.M9
 obtain⟨_,b2,b3,b4⟩:=B.M9
 let⟨m,em,m4,Zl,mc2,mc1⟩:=uA A.nn
 let⟨k,ek,k4,Zm,kc2,kc1⟩:=uA B.nn
 obtain⟨e1,e2,e3⟩:=Ef v
 obtain⟨f1,f2,f3⟩:=Ef u
 have t0:=A.lo
 have t3:=A.hi
 have s3:=B.hi
 have key: ∀{j:Nat} {x y:Int},dQ w (2+(j:Int))=x->dQ z (2+(j:Int))=y->((!decide (dQ z (2+(j:Int))<=dQ w (2+(j:Int))))=true↔x<y):=λe f=>by simp only[e,f];simp
 have k0:=key (j:=0) a2 b2
 have k1:=key (j:=1) a3 b3
 have k2:=key (j:=2) a4 b4
 unfold h_
 simp only[A.n,B.n,A.nt,B.nt,A.simple,B.simple,A.HB,B.HB,em,ek]
 unfold Cv.n
 by_cases h1:u.cy 2 3 4+s<=v.cy 2 3 4+t
 · rw[af h1]
   exact⟨(λh=>nomatch h),λh=>absurd h.1 (Int.not_lt.mpr h1)⟩
 rw[aa h1]
 have h1:v.l1 t<u.l1 s:=Int.not_le.mp h1
 by_cases h2:(decide (m<=1)&&decide (k<=1))=true
 · rw[af h2]
   simp only[cY,decide_eq_true_eq,decide_eq_true_eq] at h2
   rw[decide_eq_true_eq]
   have z:=Zl (aX h2.1 (by decide))
   have z':=mc2 (aX h2.1 (by decide))
   have y:=Zm (aX h2.2 (by decide))
   have y':=kc2 (aX h2.2 (by decide))
   simp only[mc1 h2.1,z',z] at e1
   simp only[z',z] at e2
   rw[z] at e3
   simp only[kc1 h2.2,y',y] at f1
   simp only[y',y] at f2
   rw[y] at f3
   have h1:v.cy 2 3 4+t<u.cy 2 3 4+s:=h1
   show v.cy 1 1 1<=u.cy 1 1 1↔v.cy 2 3 4+t<u.cy 2 3 4+s/\ 2*v.cy 1 2 2+t<2*u.cy 1 2 2+s/\ 3*v.cy 1 1 2+t<3*u.cy 1 1 2+s/\ 4*v.cy 1 1 1+t<4*u.cy 1 1 1+s
   have q1:v.cy 2 3 4=v.cy 1 1 1:=e1.trans (fB _)
   have q2:v.cy 1 2 2=v.cy 1 1 1:=e2.trans (fB _)
   have q3:v.cy 1 1 2=v.cy 1 1 1:=e3.trans (fB _)
   have p1:u.cy 2 3 4=u.cy 1 1 1:=f1.trans (fB _)
   have p2:u.cy 1 2 2=u.cy 1 1 1:=f2.trans (fB _)
   have p3:u.cy 1 1 2=u.cy 1 1 1:=f3.trans (fB _)
   simp only[q1,p1] at h1
   simp only[q1,q2,q3,p1,p2,p3]
   exact Js h1 t0 s3
 · rw[aa h2,all_range]
   simp only[cY,decide_eq_true_eq,decide_eq_true_eq] at h2
   refine bk λG hG=>?_
   obtain⟨g1,g2,g3,g4,g5⟩:=Zk ((m:Int)-1) t ((k:Int)-1) s
   refine hG ?_;clear hG G
   generalize max (max ((m:Int)-1) t) (max ((k:Int)-1) s)=M at*
   rcases Jt g1 g2 g3 g4 g5 m4 k4 t3 s3 h2 with⟨e,m2,kk2,s1⟩|⟨e,m3,kk3,s2⟩|e
   · constructor
     · intro h
       have h0:2*v.cy 1 2 2+t<2*u.cy 1 2 2+s:=k0.mp (h 0 (by rw[e];decide))
       have z:=Zl (aX m2 (by decide))
       have y:=Zm (aX kk2 (by decide))
       have q2:v.cy 1 2 2=v.cy 1 1 1:=by rw[e2,mc2 m2,z];exact fB _
       have p2:u.cy 1 2 2=u.cy 1 1 1:=by rw[f2,kc2 kk2,y];exact fB _
       have q3:v.cy 1 1 2=v.cy 1 1 1:=by rw[e3,z];exact fB _
       have p3:u.cy 1 1 2=u.cy 1 1 1:=by rw[f3,y];exact fB _
       have h0':=h0
       rw[q2,p2] at h0'
       obtain⟨r3,r4⟩:=arith1 h0' t0 s1
       refine⟨h1,h0,?_,r4⟩
       show 3*v.cy 1 1 2+t<3*u.cy 1 1 2+s
       rw[q3,p3];exact r3
     · intro h j hj
       obtain rfl:j=0:=by rw[e] at hj;exact Nat.lt_one_iff.mp hj
       exact k0.mpr h.2.1
   · constructor
     · intro h
       have h0:=k0.mp (h 0 (by rw[e];decide))
       have h3:3*v.cy 1 1 2+t<3*u.cy 1 1 2+s:=k1.mp (h 1 (by rw[e];decide))
       have q3:v.cy 1 1 2=v.cy 1 1 1:=by rw[e3,Zl m3];exact fB _
       have p3:u.cy 1 1 2=u.cy 1 1 1:=by rw[f3,Zm kk3];exact fB _
       have KV:=h3
       rw[q3,p3] at KV
       exact⟨h1,h0,h3,arith2 KV t0 s2⟩
     · intro h j hj
       rw[e] at hj
       match j,hj with
       |0,_=>exact k0.mpr h.2.1
       |1,_=>exact k1.mpr h.2.2.1
   · constructor
     · intro h
       exact⟨h1,k0.mp (h 0 (by rw[e];decide)),k1.mp (h 1 (by rw[e];decide)),k2.mp (h 2 (by rw[e];decide))⟩
     · intro h j hj
       rw[e] at hj
       match j,hj with
       |0,_=>exact k0.mpr h.2.1
       |1,_=>exact k1.mpr h.2.2.1
       |2,_=>exact k2.mpr h.2.2.2
theorem xJ{v:Cv}(h:v.nn):v=⟨v.list.getD 0 0,v.list.getD 1 0,v.list.getD 2 0,v.list.getD 3 0⟩:=by
 rcases oX h with⟨e,_⟩|⟨e,z3,_⟩|⟨e,z3,z2,_⟩|⟨e,z3,z2,z1,_⟩|⟨e,z3,z2,z1,z0⟩<;>rw[e]<;>obtain⟨a,b,c,d⟩:=v<;>dsimp only at* <;>subst_vars<;>rfl
theorem Eg{v u:Cv}(hv:v.nn)(hu:u.nn)(e:v.list=u.list):v=u:=by rw[xJ hv,xJ hu,e]
theorem HC{a b c:Int}(h:a+b=c+b):a=c:=R8 h
theorem can{k x y t:Int}(hk:k≠0)(h:k*x+t=k*y+t):x=y:=Int.eq_of_mul_eq_mul_left hk (HC h)
theorem Ju{x y t s:Int}(h:4*x+t=4*y+s)(t0:0<=t)(t3:t<=3)(s0:0<=s)(s3:s<=3):x=y:=WG h t0 s0 t3 s3
theorem eq_iff{w z:WS}{v u:Cv}{t s:Int}(A:Line w v t)(B:Line z u s):(w.cnt==z.cnt&&w.trail==z.trail)=true↔v.l1 t=u.l1 s/\ v.l2 t=u.l2 s/\ v.l3 t=u.l3 s/\ v.l4 t=u.l4 s:=by
 simp only[A.cnt,B.cnt,A.trail,B.trail,cY,beq_iff_eq,beq_iff_eq]
 constructor
 · rintro ⟨e,rfl⟩
   rw[Eg A.nn B.nn e]
   exact⟨rfl,rfl,rfl,rfl⟩
 · rintro ⟨h1,h2,h3,h4⟩
   obtain⟨e1,e2,e3⟩:=Ef v
   obtain⟨f1,f2,f3⟩:=Ef u
   have n:v.cy 1 1 1=u.cy 1 1 1:=Ju h4 A.lo A.hi B.lo B.hi
   have h4:4*v.cy 1 1 1+t=4*u.cy 1 1 1+s:=h4
   rw[n] at h4
   obtain rfl:=Int.add_left_cancel h4
   have g3:=can (by decide) h3
   have g2:=can (by decide) h2
   have g1:=HC h1
   simp only[e3,f3,n] at g3
   have q3:=Int.add_left_cancel g3
   simp only[e2,f2,n,q3] at g2
   have q2:=HC (Int.add_left_cancel g2)
   simp only[e1,f1,n,q3,q2] at g1
   have q1:=HC (HC (Int.add_left_cancel g1))
   have n:v.c0+1*v.c1+1*v.c2+1*v.c3=u.c0+1*u.c1+1*u.c2+1*u.c3:=n
   rw[q1,q2,q3] at n
   have q0:=HC (HC (HC n))
   obtain⟨a,b,c,d⟩:=v
   obtain⟨a',b',c',d'⟩:=u
   obtain rfl:a=a':=q0
   obtain rfl:b=b':=q1
   obtain rfl:c=c':=q2
   obtain rfl:d=d':=q3
   exact⟨rfl,rfl⟩
theorem oY{ts k1 k2 k3:Int}(h: ∀r∈([0,1,2,3]:List Int),∀m:Int,(ts*m+r).fdiv ts*ts+ts=ts*(m+Nk k1 k2 k3 r)): ∀(row:List Int) (v:Cv),qJ row->lD ts (ts*v.cy k1 k2 k3) row=ts*(row.foldl bV v).cy k1 k2 k3
 |[],_,_=>rfl
 |r::row,v,hr=>by
  have ih:=oY h row (bV v r) λx hx=>hr x (.tail _ hx)
  have hm:r∈([0,1,2,3]:List Int):=by rcases Gd (hr r (.head _)) with rfl|rfl|rfl|rfl<;>decide
  simp only[fR,<-ih,je,<-h r hm];rfl
theorem fd{ts m r q:Int}(h:0<ts)(hr:r=q*ts+(r-q*ts))(h0:0<=r-q*ts)(h1:r-q*ts<ts):(ts*m+r).fdiv ts*ts+ts=ts*(m+(q+1)):=by
 have e:=(mj (ts*m+r) h).det (q':=m+q) (r':=r-q*ts) ⟨by rw[Int.add_mul,iy ts m];generalize m*ts=x;exact Tq,h0,h1⟩
 rw[e.1,iy _ ts,<-Int.add_assoc,Int.mul_add ts (m+q) 1,Int.mul_one]
theorem kL{row:List Int}{t:Int}(hr:qJ row):cW row t=[(iR row).l1 t,(iR row).l2 t,(iR row).l3 t,(iR row).l4 t]:=by
 have mem: ∀{P:Int->Prop},P 0->P 1->P 2->P 3-> ∀r∈([0,1,2,3]:List Int),P r:=λp0 p1 p2 p3 r h=>by
  simp only[aB,ai,or_false] at h
  rcases h with rfl|rfl|rfl|rfl<;>assumption
 have e1:=oY (ts:=1) (k1:=2) (k2:=3) (k3:=4) (mem (λm=>fd (q:=0) (by decide) rfl (by decide) (by decide)) (λm=>fd (q:=1) (by decide) rfl (by decide) (by decide)) (λm=>fd (q:=2) (by decide) rfl (by decide) (by decide)) λm=>fd (q:=3) (by decide) rfl (by decide) (by decide)) row ⟨0,0,0,0⟩ hr
 have e2:=oY (ts:=2) (k1:=1) (k2:=2) (k3:=2) (mem (λm=>fd (q:=0) (by decide) rfl (by decide) (by decide)) (λm=>fd (q:=0) (by decide) rfl (by decide) (by decide)) (λm=>fd (q:=1) (by decide) rfl (by decide) (by decide)) λm=>fd (q:=1) (by decide) rfl (by decide) (by decide)) row ⟨0,0,0,0⟩ hr
 have e3:=oY (ts:=3) (k1:=1) (k2:=1) (k3:=2) (mem (λm=>fd (q:=0) (by decide) rfl (by decide) (by decide)) (λm=>fd (q:=0) (by decide) rfl (by decide) (by decide)) (λm=>fd (q:=0) (by decide) rfl (by decide) (by decide)) λm=>fd (q:=1) (by decide) rfl (by decide) (by decide)) row ⟨0,0,0,0⟩ hr
 have e4:=oY (ts:=4) (k1:=1) (k2:=1) (k3:=1) (mem (λm=>fd (q:=0) (by decide) rfl (by decide) (by decide)) (λm=>fd (q:=0) (by decide) rfl (by decide) (by decide)) (λm=>fd (q:=0) (by decide) rfl (by decide) (by decide)) λm=>fd (q:=0) (by decide) rfl (by decide) (by decide)) row ⟨0,0,0,0⟩ hr
 show[lD 1 (1*(⟨0,0,0,0⟩:Cv).cy 2 3 4) row+t,lD 2 (2*(⟨0,0,0,0⟩:Cv).cy 1 2 2) row+t,lD 3 (3*(⟨0,0,0,0⟩:Cv).cy 1 1 2) row+t,lD 4 (4*(⟨0,0,0,0⟩:Cv).cy 1 1 1) row+t]=_
 rw[e1,e2,e3,e4,fc]
 rfl
theorem xK(l:List Nat)(i:Nat): ∀n,i+n<=l.length->((List.range n).map λk=>i+k).filterMap (l[·]?)=(l.drop i).take n
 |0,_=>rfl
 |n+1,h=>by
  simp only[List.range_succ,dN,pF,xK l i n (J_ h),List.take_add_one,List.getElem?_drop]
  congr 1
theorem xM(x:Str)(is:List Nat):cl ⟨(is.filterMap (x.cps[·]?)).toArray⟩=is.filterMap ((cl x)[·]?):=by
 show(is.filterMap (x.cps[·]?)).toArray.toList=_
 rw[List.toList_toArray]
 congr 1
 funext i
 exact(Array.getElem?_toList ..).symm
theorem qK{x:Str}{l u:Option Int}{i n:Nat}(e:strSliceIndices l u 1 x.length=(List.range n).map λk=>i+k)(h:i+n<=x.length):cl (Txt.slice x l u)=((cl x).drop i).take n:=by
 unfold Txt.slice
 rw[e]
 by_cases q:((1:Int)==1&&((List.range n).map λk=>i+k).length==x.length)=true
 · rw[af q]
   have q2:n=x.length:=by simpa using q
   obtain rfl:i=0:=R9 h q2
   simp only[List.drop_zero,List.take_of_length_le (by rw[cQ];exact ZT q2)]
 · rw[aa q,xM,xK _ _ _ (by rw[cQ];exact h)]
theorem mO(i j:Nat)(h:i<=j):sliceRange (i:Int) (j:Int) 1=(List.range (j-i)).map λk=>i+k:=by
 unfold sliceRange
 rw[af (by decide)]
 by_cases q:(i:Int)<j
 · rw[af q]
   have e:((j:Int)-i+1-1)/1=((j-i:Nat):Int):=by rw[Int.ediv_one];lia
   rw[e]
   show(List.range (j-i)).map _=_
   refine List.map_congr_left λk _=>?_
   show((i:Int)+1*(k:Int)).toNat=i+k
   exact VB
 · rw[aa q,show j-i=0 by exact T3 q];rfl
theorem oZ(x:Str)(i j:Nat)(hi:i<=x.length)(hj:i<=j):cl (Txt.slice x (some (i:Int)) (some (j:Int)))=((cl x).drop i).take (j-i):=by
 have e:strSliceIndices (some (i:Int)) (some (j:Int)) 1 x.length=(List.range (min j x.length-i)).map λk=>i+k:=by
  unfold strSliceIndices
  have e1:max 0 (min (i:Int) x.length)=(i:Int):=KJ hi
  have e2:max 0 (min (j:Int) x.length)=((min j x.length:Nat):Int):=We
  have n1: ¬((i:Int)<0):=OB
  have n2: ¬((j:Int)<0):=OB
  simp only[n1,n2,if_false,show(1:Int)>0 by decide,if_true,e1,e2]
  exact mO i (min j x.length) (TU hj hi)
 rw[qK e (UG hi)]
 by_cases q:j<=x.length
 · rw[Nat.min_eq_left q]
 · rw[Nat.min_eq_right (Q29 q),List.take_of_length_le (by rw[pH,cQ];exact Q80),List.take_of_length_le (by rw[pH,cQ];exact SR q)]
theorem uB(x:Str)(i:Nat)(hi:i<=x.length):cl (Txt.slice x (some (i:Int)) none)=(cl x).drop i:=by
 have e:strSliceIndices (some (i:Int)) none 1 x.length=(List.range (x.length-i)).map λk=>i+k:=by
  unfold strSliceIndices
  have e1:max 0 (min (i:Int) x.length)=(i:Int):=KJ hi
  have n1: ¬((i:Int)<0):=OB
  simp only[n1,if_false,show(1:Int)>0 by decide,if_true,e1]
  exact mO i x.length hi
 rw[qK e (by lia),List.take_of_length_le (by rw[pH,cQ];lia)]
noncomputable def BN(T:List (PyData×PyData))(l:List Nat):Int:=
 match sA T ⟨(l.take 3).toArray⟩,sA T ⟨(l.take 2).toArray⟩,sA T ⟨(l.take 1).toArray⟩ with
 |some i,_,_=>i
 |none,some i,_=>i
 |none,none,some i=>i
 |none,none,none=>0
theorem uC{T:List (PyData×PyData)}{x:Str}{i:Nat}(hi:i<=x.length):numberOf T x (i:Int)=BN T ((cl x).drop i):=by
 have key: ∀n:Nat,numAt T x (i:Int) (n:Int)=sA T ⟨(((cl x).drop i).take n).toArray⟩:=λn=>by
  unfold numAt
  congr 1
  refine sS ?_
  simp only[show(i:Int)+(n:Int)=((i+n:Nat):Int) by exact US,oZ x i (i+n) hi (by exact ZS),show i+n-i=n by exact Qw]
 delta numberOf BN
 have k3:=key 3
 have k2:=key 2
 have k1:=key 1
 rw[show((3:Nat):Int)=3 from rfl] at k3
 rw[show((2:Nat):Int)=2 from rfl] at k2
 rw[show((1:Nat):Int)=1 from rfl] at k1
 rw[k3,k2,k1]
 all_goals rfl
theorem Zn(l:List Nat): ∀st:BX,(l.foldl kG st).n=st.n+l.length:=by
 induction l with
 |nil=>intro st;simp
 |cons c l ih=>
  intro st
  simp only[fR,ih,eF]
  have:(kG st c).n=st.n+1:=by unfold kG;split<;>rfl
  rw[this];exact Ox
theorem ze(row:List Int)(t:Int): ∀c∈jd row t,jU c=true:=by
 intro c hc
 unfold jd at hc
 rcases bB.mp hc with h|h
 · obtain⟨r,_,h⟩:=List.mem_flatMap.mp h
   rcases bB.mp h with h|h
   · rw[List.eq_of_mem_replicate h];rfl
   · rw[ay.mp h];rfl
 · rw[List.eq_of_mem_replicate h];rfl
theorem sW: ∀(l:List Nat) {c:Nat} {r:List Nat},(∀x∈l,jU x=true)->jU c=false->(l++c::r).takeWhile jU=l
 |[],c,r,_,h=>by simp[h]
 |x::l,c,r,h1,h2=>by
  rw[List.cons_append,List.takeWhile_cons,af (h1 x (.head _)),sW l (λy hy=>h1 y (.tail _ hy)) h2]
theorem Ax{x:Str}{row:List Int}{t:Int}{c:Nat}{r:List Nat}(hr:qJ row)(h0:0<=t)(h3:t<=3)(e:cl x=jd row t++c::r)(hc:jU c=false):Line (wV x) (iR row) t/\ (wV x).n=((jd row t).length:Int):=by
 obtain⟨w1,w2,w3⟩:=vR hr h0
 have e1:fG x.cps.toList=bx (jd row t):=by
  unfold fG
  rw[show x.cps.toList=jd row t++c::r from e,sW _ (ze row t) hc]
 have hn:=Zn (jd row t) ⟨[],0,0,0⟩
 refine⟨⟨?_,?_,?_,?_,?_,w2,h0,h3⟩,?_⟩
 · show(fG x.cps.toList).c=_;simp only[e1,w1]
 · show(fG x.cps.toList).b=_;simp only[e1,w1]
 · show(fG x.cps.toList).n=_;simp only[e1,w1]
 · show(fG x.cps.toList).nt=_;simp only[e1,w1]
 · show decide ((fG x.cps.toList).c.length<=1)=_;simp only[e1,w1]
 · show(fG x.cps.toList).n=_
   rw[e1]
   have:(bx (jd row t)).n=0+(jd row t).length:=hn
   simp only[this,iz]
theorem Line.ok{w:WS}{v:Cv}{t:Int}(L:Line w v t):DA w:=by
 unfold DA
 rw[L.cnt,L.trail]
 have h0:=L.lo
 have h3:=L.hi
 refine⟨?_,h0,O8 h3⟩
 rcases oX L.nn with⟨e,_⟩|⟨e,_⟩|⟨e,_⟩|⟨e,_⟩|⟨e,_⟩<;>rw[e]<;>simp
noncomputable def Gf(O:Int->Int->Option Bool)(k:Int):List Int->Option (List Int)
 |[]=>some []
 |j::r=>match O j k with
  |some true=>some (j::r)
  |some false=>Gf O k r
  |none=>none
noncomputable def xN(O:Int->Int->Option Bool):List Int->List Int->List Int->Option (List Int)
 |over,_,[]=>some over
 |over,pile,k::l=>match Gf O k pile with
  |some p=>xN O (over++[(p++[-1]).headD 0]) (k::p) l
  |none=>none
theorem Ay{O:Int->Int->Option Bool}{L:Int->Int->Bool}(h: ∀j k b,O j k=some b->L j k=b)(k:Int): ∀(pile p:List Int),Gf O k pile=some p->jX L k pile=p
 |[],p,e=>by cases e;rfl
 |j::r,p,e=>by
  unfold Gf at e
  unfold jX
  split at e
  · rename_i q;injection e with e;subst e;rw[af (h _ _ _ q)]
  · rename_i q;rw[aa (by rw[h _ _ _ q];decide)];exact Ay h k r p e
  · cases e
theorem xO{O:Int->Int->Option Bool}{L:Int->Int->Bool}(h: ∀j k b,O j k=some b->L j k=b): ∀(l over pile r:List Int),xN O over pile l=some r->(l.foldl (jY L) ⟨over,pile⟩).over=r
 |[],over,pile,r,e=>by cases e;rfl
 |k::l,over,pile,r,e=>by
  unfold xN at e
  split at e
  · rename_i p q
    rw[fR]
    have e2:jY L ⟨over,pile⟩ k=⟨over++[(p++[-1]).headD 0],k::p⟩:=by
     unfold jY
     dsimp only
     rw[Ay h k pile p q]
    rw[e2]
    exact xO h l _ _ r e
  · cases e
noncomputable def Gg:List (Str×PyData):=match bW 66 with
 | .Assign _ (.Dict ks _ _) _=>ks.filterMap λk=>match k with|some (.Constant (.str x) _ _)=>some (x,PyData.int (7+(qa.idxOf x:Int)))|_=>none
 |_=>[]
noncomputable abbrev nI:List (PyData×PyData):=Gg.map λp=>(PyData.str p.1,p.2)
noncomputable def Az(n:Int):Bool:=(match cl (wordOf n) with|c::_=>!jU c|[]=>false)&&(cl (wordOf n)).all (λc=>c !=34&&c !=92)&&BN nI (cl (wordOf n)++[120])==n&&BN nI (cl (wordOf n)++[92])==n&&decide ((cl (wordOf n)).length<=3)
theorem BO:((List.range 48).all λi=>Az (7+(i:Int)))=true:=by decide+kernel
structure jI(n:Int):Prop where
 hd: ∃c r,cl (wordOf n)=c::r/\ jU c=false
 no: ∀c∈cl (wordOf n),c≠34/\ c≠92
 nx:BN nI (cl (wordOf n)++[120])=n
 nb:BN nI (cl (wordOf n)++[92])=n
 len:(wordOf n).length<=3
theorem ry{n:Int}(h:7<=n/\ n<=54):jI n:=by
 have h1:=dM.mp BO (n-7).toNat (bS.mpr (by lia))
 rw[show 7+((n-7).toNat:Int)=n by lia] at h1
 unfold Az at h1
 rw[cY,cY,cY,cY] at h1
 obtain⟨⟨⟨⟨a,b⟩,c⟩,d⟩,e⟩:=h1
 refine⟨?_,λx hx=>?_,of_decide_eq_true c,of_decide_eq_true d,?_⟩
 · cases hw:cl (wordOf n) with
   |nil=>rw[hw] at a;cases a
   |cons x r=>rw[hw] at a;exact⟨x,r,rfl,by simpa using a⟩
 · have:=dM.mp b x hx
   simpa using this
 · rw[<-cQ];simpa using e
noncomputable def mP(due:List Int):Nat->Nat->List Nat
 |0,_=>[]
 |f+1,k=>if k=0 then[] else mP due f (due.getD k 0).toNat++[k]
theorem Eh:(vO 5).map (λds c0 c1 c2 c3 c4 c5=>rowsOf [c0,c1,c2,c3,c4,c5] (a_ ds))=
 (vO 5).map λds c0 c1 c2 c3 c4 c5=>(List.range 6).map λk=>(mP (a_ ds) 6 k).map λi=>(([c0,c1,c2,c3,c4,c5].getD i 0).fdiv 2880).fmod 4:=by kernel_rfl
noncomputable def Oq(ds:List Int)(j k:Int):Option Bool:=
 if 0<=j/\ j<6/\ 0<=k/\ k<6 then(if ds.getD k.toNat 0<=ds.getD j.toNat 0 then some false else if(mP (a_ ds) 6 j.toNat).isPrefixOf (mP (a_ ds) 6 k.toNat) then some true else none) else none
noncomputable def HD(ds:List Int):Bool:=
 ds.length==6&&(List.range 6).all (λk=>((mP (a_ ds) 6 k).length:Int)==ds.getD k 0)&&xN (Oq ds) [-1] [0] [1,2,3,4,5]==some (a_ ds)&&
 (List.range 6).all (λk=>k==0||(decide (0<=(a_ ds).getD k 0)&&decide ((a_ ds).getD k 0<k)))&&
 (List.range 6).all (λk=>decide (dB ((a_ ds).getD k 0) 6<6)&&decide (dB ((a_ ds).getD k 0) 6≠k)&&((a_ ds).getD k 0==(dB ((a_ ds).getD k 0) 6:Int)||(a_ ds).getD k 0==(dB ((a_ ds).getD k 0) 6:Int)-6))&&
 (List.range 5).all (λj=>decide (0<=ds.getD j 0+1-ds.getD (j+1) 0)&&decide (ds.getD j 0+1-ds.getD (j+1) 0<=8))&&decide (0<=ds.getD 5 0)&&decide (ds.getD 5 0<=7)&&
 (List.range 6).all λj=>decide (1<=(D_ (a_ ds)).getD j 0)&&decide ((j:Int)+(D_ (a_ ds)).getD j 0<=6)
theorem Gh:(vO 5).all HD=true:=by decide+kernel
structure Shp(ds:List Int):Prop where
 len:ds.length=6
 path: ∀k,k<6->((mP (a_ ds) 6 k).length:Int)=ds.getD k 0
 nF:xN (Oq ds) [-1] [0] [1,2,3,4,5]=some (a_ ds)
 lt: ∀k,1<=k->k<6->0<=(a_ ds).getD k 0/\ (a_ ds).getD k 0<k
 ov: ∀j,j<6->dB ((a_ ds).getD j 0) 6<6/\ dB ((a_ ds).getD j 0) 6≠j/\ ((a_ ds).getD j 0=dB ((a_ ds).getD j 0) 6 \/(a_ ds).getD j 0=(dB ((a_ ds).getD j 0) 6:Int)-6)
 dd: ∀j,j<5->0<=ds.getD j 0+1-ds.getD (j+1) 0/\ ds.getD j 0+1-ds.getD (j+1) 0<=8
 de:0<=ds.getD 5 0/\ ds.getD 5 0<=7
 sz: ∀j,j<6->1<=(D_ (a_ ds)).getD j 0/\ (j:Int)+(D_ (a_ ds)).getD j 0<=6
theorem zf{ds:List Int}(h:ds∈vO 5):Shp ds:=by
 have h1:=dM.mp Gh ds h
 unfold HD at h1
 simp only[cY] at h1
 obtain⟨⟨⟨⟨⟨⟨⟨⟨a1,a2⟩,a3⟩,a4⟩,a5⟩,a6⟩,a7⟩,a8⟩,a9⟩:=h1
 have mr: ∀{k n:Nat},k<n->k∈List.range n:=λh=>bS.mpr h
 refine⟨of_decide_eq_true a1,λk hk=>?_,by simpa using a3,λk k1 hk=>?_,λk hk=>?_,λk hk=>?_,⟨of_decide_eq_true a7,of_decide_eq_true a8⟩,λk hk=>?_⟩
 · have:=dM.mp a2 k (mr hk)
   simpa using this
 · have:=dM.mp a4 k (mr hk)
   simp only[Bool.or_eq_true,cY] at this
   rcases this with q|q
   · have:k=0:=by simpa using q
     lia
   · exact⟨of_decide_eq_true q.1,of_decide_eq_true q.2⟩
 · have:=dM.mp a5 k (mr hk)
   simp only[cY,cY,Bool.or_eq_true] at this
   exact⟨of_decide_eq_true this.1.1,of_decide_eq_true this.1.2,this.2.imp (λq=>of_decide_eq_true q) λq=>of_decide_eq_true q⟩
 · have:=dM.mp a6 k (mr hk)
   rw[cY] at this
   exact⟨of_decide_eq_true this.1,of_decide_eq_true this.2⟩
 · have:=dM.mp a9 k (mr hk)
   rw[cY] at this
   exact⟨of_decide_eq_true this.1,of_decide_eq_true this.2⟩
theorem Gi: ∀l:List Int,iI l∈vO l.length/\ 0<=(iI l).getD ((iI l).length-1) 0:=λl=>by
 generalize hn:l.length=m
 induction m generalizing l with
 |zero=>rw[gh hn];exact⟨.head _,cO _⟩
 |succ m ih=>
  obtain⟨l',c,rfl⟩: ∃l' c,l=l'++[c]:=⟨l.dropLast,l.getLast (by intro e;rw[e] at hn;cases hn),(iV _).symm⟩
  obtain⟨i1,i2⟩:=ih l' (by simpa using hn)
  rw[lN]
  unfold oQ
  generalize iI l'=ds at*
  have r1:=iw c (show 0<ds.getD (ds.length-1) 0+1 by exact Oz i2)
  have r2:=jx c (show 0<ds.getD (ds.length-1) 0+1 by exact Oz i2)
  have e3:(ds++[1+c.fmod (ds.getD (ds.length-1) 0+1)]).getD ((ds++[1+c.fmod (ds.getD (ds.length-1) 0+1)]).length-1) 0=1+c.fmod (ds.getD (ds.length-1) 0+1):=by
   rw[cF,pI,Nat.add_sub_cancel,bM,List.getElem?_concat_length];rfl
  rw[e3]
  refine⟨List.mem_flatMap.mpr ⟨ds,i1,aQ.mpr ⟨(c.fmod (ds.getD (ds.length-1) 0+1)).toNat,bS.mpr (VE i2 r2),?_⟩⟩,ZU r1⟩
  rw[show Int.ofNat (c.fmod (ds.getD (ds.length-1) 0+1)).toNat=c.fmod (ds.getD (ds.length-1) 0+1) by show(((c.fmod (ds.getD (ds.length-1) 0+1)).toNat:Nat):Int)=_;exact Q96 r1]
theorem rz{a b c r:Int}(h:1<=a/\ 1<=b/\ 1<=c):1<=Nk a b c r:=by
 unfold Nk
 by_cases h0:r=0
 · rw[af h0];decide
 rw[aa h0]
 by_cases h1:r=1
 · rw[af h1];exact h.1
 rw[aa h1]
 by_cases h2:r=2
 · rw[af h2];exact h.2.1
 rw[aa h2];exact h.2.2
theorem sX{v:Cv}{r t:Int}(hr:0<=r/\ r<=3):v.l1 t<(bV v r).l1 t/\ v.l2 t<(bV v r).l2 t/\ v.l3 t<(bV v r).l3 t/\ v.l4 t<(bV v r).l4 t:=by
 delta Cv.l1 Cv.l2 Cv.l3 Cv.l4
 simp only[je,je,je,je]
 have a:=@rz 2 3 4 r (by decide)
 have b:=@rz 1 2 2 r (by decide)
 have c:=@rz 1 1 2 r (by decide)
 have d:=@rz 1 1 1 r (by decide)
 exact Xw a b c d
theorem AA{t:Int}: ∀(e:List Int) (v:Cv),qJ e->e≠[]->v.l1 t<(e.foldl bV v).l1 t/\ v.l2 t<(e.foldl bV v).l2 t/\ v.l3 t<(e.foldl bV v).l3 t/\ v.l4 t<(e.foldl bV v).l4 t
 |[],_,_,h=>absurd rfl h
 |[r],v,hr,_=>sX (hr r (.head _))
 |r::s::e,v,hr,_=>by
  have h1:=sX (v:=v) (t:=t) (hr r (.head _))
  have h2:=AA (t:=t) (s::e) (bV v r) (λx hx=>hr x (.tail _ hx)) (by simp)
  rw[fR]
  refine⟨J1 h1.1 h2.1,J1 h1.2.1 h2.2.1,J1 h1.2.2.1 h2.2.2.1,J1 h1.2.2.2 h2.2.2.2⟩
theorem Ei: ∀l:List Int,l≠[]-> ∃m∈l,∀g∈l,g<=m
 |[],h=>absurd rfl h
 |[a],_=>⟨a,.head _,λg hg=>by rw[ay.mp hg];exact cO _⟩
 |a::b::r,_=>by
  obtain⟨m,hm,h⟩:=Ei (b::r) (by simp)
  by_cases q:m<=a
  · exact⟨a,.head _,λg hg=>(aB.mp hg).elim (λe=>by rw[e];exact cO _) λe=>Int.le_trans (h g e) q⟩
  · exact⟨m,.tail _ hm,λg hg=>(aB.mp hg).elim (λe=>by rw[e];exact Z3 q) (h g)⟩
theorem Ej: ∀l:List Int,l≠[]-> ∃m∈l,∀g∈l,m<=g
 |[],h=>absurd rfl h
 |[a],_=>⟨a,.head _,λg hg=>by rw[ay.mp hg];exact cO _⟩
 |a::b::r,_=>by
  obtain⟨m,hm,h⟩:=Ej (b::r) (by simp)
  by_cases q:a<=m
  · exact⟨a,.head _,λg hg=>(aB.mp hg).elim (λe=>by rw[e];exact cO _) λe=>Int.le_trans q (h g e)⟩
  · exact⟨m,.tail _ hm,λg hg=>(aB.mp hg).elim (λe=>by rw[e];exact Z3 q) (h g)⟩
theorem AB(a b c d a' b' c' d':Int):kJ [a,b,c,d] [a',b',c',d']=[a-a',b-b',c-c',d-d']:=rfl
noncomputable abbrev Ek(cells:List Int)(i:Nat):Int:=((cells.getD i 0).fdiv 2880).fmod 4
noncomputable abbrev iu(ds cells:List Int)(k:Nat):List Int:=(mP (a_ ds) 6 k).map (Ek cells)
theorem HE(cells:List Int)(i:Nat):0<=Ek cells i/\ Ek cells i<=3:=by
 have h1:=iw ((cells.getD i 0).fdiv 2880) (show(0:Int)<4 by decide)
 have h2:=jx ((cells.getD i 0).fdiv 2880) (show(0:Int)<4 by decide)
 show 0<=((cells.getD i 0).fdiv 2880).fmod 4/\ ((cells.getD i 0).fdiv 2880).fmod 4<=3
 lia
theorem jv(ds cells:List Int)(k:Nat):qJ (iu ds cells k):=λr hr=>by
 obtain⟨i,_,rfl⟩:=aQ.mp hr
 exact HE cells i
theorem iT(x:Int){n:Int}(h:0<n):0<=x.fmod n/\ x.fmod n<n:=⟨iw x h,jx x h⟩
theorem bfx{ds:List Int}(jK:ds∈vO 5){c0 c1 c2 c3 c4 c5 total:Int}{nums:List Int}(hl:nums.length=6)(hn: ∀j,j<6->7<=nums.getD j 0/\ nums.getD j 0<=54):
 Of nI [c0,c1,c2,c3,c4,c5] nums (a_ ds) (rowsOf [c0,c1,c2,c3,c4,c5] (a_ ds)) (nums.map wordOf) (fz (rowsOf [c0,c1,c2,c3,c4,c5] (a_ ds)) (nums.map wordOf) (total.fmod 3)) total:=by
 have S:=zf jK
 have hrw:rowsOf [c0,c1,c2,c3,c4,c5] (a_ ds)=(List.range 6).map λk=>iu ds [c0,c1,c2,c3,c4,c5] k:=congrFun (congrFun (congrFun (congrFun (congrFun (congrFun (List.map_inj_left.mp Eh ds jK) c0) c1) c2) c3) c4) c5
 rw[hrw]
 generalize gk:[c0,c1,c2,c3,c4,c5]=cells
 have jJ:cells.length=6:=by rw[<-gk];rfl
 obtain⟨t0,t3⟩:=iT total (show(0:Int)<3 by decide)
 generalize AD:total.fmod 3=tail at*
 have sR: ∀k,k<6->((List.range 6).map λk=>iu ds cells k).getD k []=iu ds cells k:=λk hk=>by
  simp only[bM,cM,pG hk];rfl
 have Nm: ∀k,k<6->(nums.map wordOf).getD k "" =wordOf (nums.getD k 0):=λk hk=>by
  simp only[bM,cM,bM,cE (by rw[hl];exact hk)];rfl
 have Zo: ∀k,k<6->(fz ((List.range 6).map λk=>iu ds cells k) (nums.map wordOf) tail).getD k "" =(eT (iu ds cells k) tail++wordOf (nums.getD k 0))++ "x":=λk hk=>by
  unfold fz
  rw[bM,cM,pG hk]
  show(eT (((List.range 6).map λk=>iu ds cells k).getD k []) tail++(nums.map wordOf).getD k "")++ "x" =_
  rw[sR k hk,Nm k hk]
 have rT: ∀k,k<6->cl ((eT (iu ds cells k) tail++wordOf (nums.getD k 0))++ "x")=jd (iu ds cells k) tail++(cl (wordOf (nums.getD k 0))++[120]):=λk hk=>by
  simp only[jH,jH,Aw (λr hr=>(jv ds cells k r hr).1) t0,lq];rfl
 have aF: ∀k,k<6->Line (cA (fz ((List.range 6).map λk=>iu ds cells k) (nums.map wordOf) tail) k) (iR (iu ds cells k)) tail/\
  (cA (fz ((List.range 6).map λk=>iu ds cells k) (nums.map wordOf) tail) k).n=((jd (iu ds cells k) tail).length:Int):=λk hk=>by
  unfold cA
  rw[Zo k hk]
  obtain⟨c,r,e1,e2⟩:=(ry (hn k hk)).hd
  refine Ax (jv ds cells k) t0 (by lia) (c:=c) (r:=r++[120]) ?_ e2
  rw[rT k hk,e1];rfl
 have El:qJ (dR cells):=λr hr=>by
  unfold dR at hr
  rcases aB.mp hr with rfl|hr
  · have:=iT ((cells.getD 1 0).fdiv 11520) (show(0:Int)<4 by decide);lia
  · rw[ay.mp hr]
    have:=iT ((cells.getD 2 0).fdiv 11520) (show(0:Int)<4 by decide);lia
 have Jv:0<=bP total/\ bP total<=3:=by
  unfold bP
  have:=iT (total.fdiv 9) (show(0:Int)<4 by decide);exact J2 this.1 this.2
 have nR:Line (dK cells total) (iR (dR cells)) (bP total):=by
  unfold dK
  refine(Ax El Jv.1 Jv.2 (c:=120) (r:=[]) ?_ rfl).1
  rw[jH,Aw (λr hr=>(El r hr).1) Jv.1];rfl
 have Nn:eu cells total=_:=kL El
 have yE: ∀k,k<6->DA (cA (fz ((List.range 6).map λk=>iu ds cells k) (nums.map wordOf) tail) k):=λk hk=>(aF k hk).1.ok
 have wj:((List.range 6).map λk=>iu ds cells k).length=6:=rfl
 refine⟨jJ,hl,?_,wj,λk hk=>?_,by simpa using hl,?_,by rw[AD],yE,nR.ok,λk hk=>?_,λk hk=>?_,λk hk=>?_,λk hk=>?_,?_⟩
 · unfold a_;simp
 · rw[sR k hk]
   refine⟨jv ds cells k,?_⟩
   rw[aM]
   have h1:=S.path k hk
   have key: ∀f k,(mP (a_ ds) f k).length<=f:=by
    intro f
    induction f with
    |zero=>intro k;exact aR _
    |succ f ih=>
     intro k
     show(if k=0 then[] else mP (a_ ds) f ((a_ ds).getD k 0).toNat++[k]).length<=f+1
     split
     · exact gi _
     · rw[cF];exact Nat.succ_le_succ (ih _)
   exact aX (key 6 k) (by decide)
 · intro w hw
   obtain⟨n,uc,rfl⟩:=aQ.mp hw
   obtain⟨j,hj⟩:=rG.mp uc
   have Hv:j<6:=by
    rw[<-hl]
    exact(iW.mp hj).1
   have:=hn j Hv
   rw[bM,hj] at this
   exact aX (ry this).len (by decide)
 · rw[sR k hk,AD,kL (jv ds cells k)]
   obtain⟨l1,l2,l3,l4⟩:=(aF k hk).1.M9
   unfold fO
   obtain⟨s0,s3⟩:=iT (total.fdiv 3) (show(0:Int)<3 by decide)
   obtain e|e|e:(total.fdiv 3).fmod 3=0 \/(total.fdiv 3).fmod 3=1 \/(total.fdiv 3).fmod 3=2:=by lia
   · rw[e];exact l1
   · rw[e];exact l2
   · rw[e];exact l3
 · rw[sR k hk,AD,kL (jv ds cells k),Nn,AB,Bool.eq_iff_iff,eq_iff (aF k hk).1 nR,beq_iff_eq]
   constructor
   · rintro ⟨h1,h2,h3,h4⟩
     simp only[h1,h2,h3,h4,Int.sub_self,Int.sub_self,Int.sub_self,Int.sub_self]
   · intro h
     injection h with h1 h
     injection h with h2 h
     injection h with h3 h
     injection h with h4 h
     refine⟨JZ h1,JZ h2,JZ h3,JZ h4⟩
 · simp only[sR k hk,AD,kL (jv ds cells k),Nn,AB]
   have i1:=sV (aF k hk).1 nR
   have i2:=sV nR (aF k hk).1
   generalize (iR (iu ds cells k)).l1 tail=a1 at*
   generalize (iR (iu ds cells k)).l2 tail=a2 at*
   generalize (iR (iu ds cells k)).l3 tail=a3 at*
   generalize (iR (iu ds cells k)).l4 tail=a4 at*
   generalize (iR (dR cells)).l1 (bP total)=b1 at*
   generalize (iR (dR cells)).l2 (bP total)=b2 at*
   generalize (iR (dR cells)).l3 (bP total)=b3 at*
   generalize (iR (dR cells)).l4 (bP total)=b4 at*
   obtain⟨mx,m1,m2⟩:=Ei [a1-b1,a2-b2,a3-b3,a4-b4] (by simp)
   obtain⟨mn,n1,n2⟩:=Ej [a1-b1,a2-b2,a3-b3,a4-b4] (by simp)
   have q1:=m2 (a1-b1) (.head _)
   have q2:=m2 (a2-b2) (.tail _ (.head _))
   have q3:=m2 (a3-b3) (.tail _ (.tail _ (.head _)))
   have q4:=m2 (a4-b4) (.tail _ (.tail _ (.tail _ (.head _))))
   have p1:=n2 (a1-b1) (.head _)
   have p2:=n2 (a2-b2) (.tail _ (.head _))
   have p3:=n2 (a3-b3) (.tail _ (.tail _ (.head _)))
   have p4:=n2 (a4-b4) (.tail _ (.tail _ (.tail _ (.head _))))
   have EE:mx=a1-b1 \/mx=a2-b2 \/mx=a3-b3 \/mx=a4-b4:=by simpa using m1
   have n1':mn=a1-b1 \/mn=a2-b2 \/mn=a3-b3 \/mn=a4-b4:=by simpa using n1
   refine⟨mx,mn,m1,m2,n1,n2,?_,?_⟩
   · rw[Bool.eq_iff_iff,i1,decide_eq_true_eq]
     constructor
     · rintro ⟨h1,h2,h3,h4⟩
       rcases EE with e|e|e|e<;>lia
     · intro h;refine⟨NL q1 h,NL q2 h,NL q3 h,NL q4 h⟩
   · rw[Bool.eq_iff_iff,i2,decide_eq_true_eq]
     constructor
     · rintro ⟨h1,h2,h3,h4⟩
       rcases n1' with e|e|e|e<;>lia
     · intro h;refine⟨NN h p1,NN h p2,NN h p3,NN h p4⟩
 · rw[(aF k hk).2,uC,Zo k hk,rT k hk,List.drop_left]
   · exact(ry (hn k hk)).nx
   · rw[Zo k hk,<-cQ,rT k hk,cF]
     exact Nat.le_add_right _ _
 · delta vv dw
   refine xO (O:=Oq ds) (λj k b e=>?_) [1,2,3,4,5] [-1] [0] (a_ ds) S.nF
   unfold Oq at e
   split at e
   · rename_i hjk
     obtain⟨j0,j6,k0,k6⟩:=hjk
     have hj:j.toNat<6:=Z5 j6
     have hk:k.toNat<6:=Z5 k6
     obtain⟨lj,_⟩:=aF j.toNat hj
     obtain⟨lk,_⟩:=aF k.toNat hk
     have el:ny ((List.range 6).map (cA (fz ((List.range 6).map λk=>iu ds cells k) (nums.map wordOf) tail))) j k=h_ (cA (fz ((List.range 6).map λk=>iu ds cells k) (nums.map wordOf) tail) j.toNat) (cA (fz ((List.range 6).map λk=>iu ds cells k) (nums.map wordOf) tail) k.toNat):=by
      unfold ny
      rw[cM,cM,pG hj,pG hk];rfl
     rw[el]
     have hi:=sV lj lk
     have pj:=S.path _ hj
     have pk:=S.path _ hk
     split at e
     · rename_i hd
       injection e with e;subst e
       refine Bool.eq_false_iff.mpr λq=>?_
       obtain⟨_,_,_,h4⟩:=hi.mp q
       have nj:=(vR (jv ds cells j.toNat) t0).2.2
       have nk:=(vR (jv ds cells k.toNat) t0).2.2
       rw[aM] at nj nk
       unfold Cv.l4 at h4
       unfold Cv.nt at nj nk
       lia
     · rename_i hd
       split at e
       · rename_i hp
         injection e with e;subst e
         refine hi.mpr ?_
         obtain⟨ex,he⟩:=List.isPrefixOf_iff_prefix.mp hp
         have iO:ex≠[]:=λq=>by
          rw[q,ez] at he
          rw[<-he] at pk
          lia
         have er:iu ds cells k.toNat=iu ds cells j.toNat++ex.map (Ek cells):=by
          show(mP _ _ _).map _=_
          rw[<-he,dN]
         have ev:iR (iu ds cells k.toNat)=(ex.map (Ek cells)).foldl bV (iR (iu ds cells j.toNat)):=by
          rw[er];unfold iR;rw[eE]
         rw[ev]
         refine AA _ _ (λr hr=>?_) (by simpa using iO)
         obtain⟨i,_,rfl⟩:=aQ.mp hr
         exact HE cells i
       · cases e
   · cases e
noncomputable abbrev toS(l:List Nat):Str:=⟨l.toArray⟩
theorem gA(l:List Nat):cl (toS l)=l:=List.toList_toArray ..
theorem toS_cl(x:Str):toS (cl x)=x:=sS (gA _)
noncomputable def yb(c:Nat):List Nat->List (List Nat)
 |[]=>[[]]
 |x::r=>if x=c then[]::yb c r else match yb c r with
  |h::t=>(x::h)::t
  |[]=>[]
theorem xP(a:Array Nat)(i c:Nat):(a.extract i (i+1)== #[c])=true↔a[i]? =some c:=by
 rw[beq_iff_eq]
 constructor
 · intro h
   have h1:=congrArg (λb:Array Nat=>b[0]?) h
   by_cases q:i<a.size
   · have:(a.extract i (i+1))[0]? =a[i]?:=by
      rw[Array.getElem?_extract,af (TV q),Nat.add_zero]
     rw[<-this];exact h1
   · have:(a.extract i (i+1)).size=0:=by rw[Array.size_extract];exact Uu q
     rw[h] at this;cases this
 · intro h
   obtain⟨q,e⟩:=rC.mp h
   apply Array.ext
   · rw[Array.size_extract];simp;exact TX q
   · intro j h1 h2
     have hj:j=0:=by simp at h2;exact h2
     subst hj
     rw[Array.getElem_extract]
     simpa using e
theorem subAt_one{x:Str}{c i:Nat}:subAt x ⟨#[c]⟩ i=true↔(cl x)[i]? =some c:=by
 unfold subAt
 show(x.cps.extract i (i+1)== #[c])=true↔_
 rw[xP,Array.getElem?_toList]
theorem vS(x:Str)(c limit:Nat): ∀(n i:Nat) (arr:Array Nat) (free:Nat),free<=i->arr.size+n<=limit->
 (forIn (List.range' i n) (arr,free) (StrLaws.occBody x ⟨#[c]⟩ x.length limit)).run.fst.toList=arr.toList++(List.range' i n).filter λj=>(cl x)[j]? ==some c
 |0,i,arr,free,_,_=>by simp
 |n+1,i,arr,free,hf,hs=>by
  rw[List.range'_succ,List.forIn_cons,ko]
  unfold StrLaws.occBody
  by_cases h:(cl x)[i]? =some c
  · have hi:i+1<=x.length:=by
     obtain⟨q,_⟩:=iW.mp h
     rw[cQ] at q;exact q
    have hc:((arr.size<limit/\ free<=i)/\ i+(⟨#[c]⟩:Str).length<=x.length)/\ subAt x ⟨#[c]⟩ i=true:=⟨⟨⟨RC hs,hf⟩,hi⟩,subAt_one.mpr h⟩
    rw[af hc,af (by simpa using h)]
    have ih:=vS x c limit n (i+1) (arr.push i) (i+1) (aR _) (by rw[Array.size_push];exact Um hs)
    refine Eq.trans ih ?_
    rw[Array.toList_push,lq];rfl
  · have hc: ¬(((arr.size<limit/\ free<=i)/\ i+(⟨#[c]⟩:Str).length<=x.length)/\ subAt x ⟨#[c]⟩ i=true):=λq=>h (subAt_one.mp q.2)
    rw[aa hc,aa (by simpa using h)]
    exact vS x c limit n (i+1) arr free (Q6 hf) (by exact J_ hs)
theorem xQ(x:Str)(c:Nat):occurrences x ⟨#[c]⟩ 0 x.length (x.length+1)=(List.range' 0 (x.length+1)).filter λj=>(cl x)[j]? ==some c:=by
 rw[StrLaws.occ_eq]
 have:=vS x c (x.length+1) (x.length+1) 0 #[] 0 (aR 0) (by simp)
 rw[show x.length+1-0=x.length+1 from rfl]
 simpa using this
theorem iU(x:Str)(i j:Nat):cl (strSub x i j)=((cl x).drop i).take (j-i):=by
 show(x.cps.extract i j).toList=_
 simp only[Array.toList_extract,List.extract_eq_take_drop]
theorem uD(x:Str)(c:Nat): ∀(l:List Nat) (a:Nat),(cl x).drop a=l->x.length=a+l.length->
 ((a::((List.range' a (l.length+1)).filter λj=>(cl x)[j]? ==some c).map (· +1)).zip (((List.range' a (l.length+1)).filter λj=>(cl x)[j]? ==some c)++[x.length])).map (λp=>cl (strSub x p.1 p.2))=yb c l
 |[],a,h,hl=>by
  have e:(List.range' a (0+1)).filter (λj=>(cl x)[j]? ==some c)=[]:=by
   rw[List.range'_succ,ko,aa]
   · rfl
   · have:(cl x)[a]? =none:=List.getElem?_eq_none (by rw[cQ];simp at hl;lia)
     rw[this];simp
  show((a::((List.range' a (0+1)).filter _).map (· +1)).zip (((List.range' a (0+1)).filter _)++[x.length])).map _=_
  rw[e]
  show[cl (strSub x a x.length)]=[[]]
  simp only[iU,h];simp
 |y::l,a,h,hl=>by
  have pQ:x.length=a+1+l.length:=by simp only[hl,eF];lia
  have hd:(cl x).drop (a+1)=l:=by
   rw[<-List.drop_drop,h];rfl
  have hy:(cl x)[a]? =some y:=by
   have:((cl x).drop a)[0]? =some y:=by rw[h];rfl
   rwa [List.getElem?_drop] at this
  have ih:=uD x c l (a+1) hd pQ
  rw[eF,List.range'_succ,ko,hy]
  by_cases q:y=c
  · rw[af (by simp[q])]
    show cl (strSub x a a)::(((a+1)::((List.range' (a+1) (l.length+1)).filter _).map (· +1)).zip (((List.range' (a+1) (l.length+1)).filter _)++[x.length])).map _=_
    rw[ih,iU,Nat.sub_self,List.take_zero]
    show _=if y=c then[]::yb c l else _
    rw[af q]
  · rw[aa (by simpa using q)]
    show _=if y=c then[]::yb c l else _
    rw[aa q]
    cases hc:(List.range' (a+1) (l.length+1)).filter λj=>(cl x)[j]? ==some c with
    |nil=>
     rw[hc] at ih
     have ih:[cl (strSub x (a+1) x.length)]=yb c l:=ih
     rw[<-ih]
     show[cl (strSub x a x.length)]=[y::cl (strSub x (a+1) x.length)]
     simp only[iU,iU,h,hd,show x.length-a=(x.length-(a+1))+1 by lia];rfl
    |cons e r=>
     rw[hc] at ih
     have he:a+1<=e:=by
      have:e∈(List.range' (a+1) (l.length+1)).filter λj=>(cl x)[j]? ==some c:=by rw[hc];exact .head _
      have:=(fh.mp this).1
      rw[List.mem_range'_1] at this
      exact this.1
     have ih:cl (strSub x (a+1) e)::(((e+1)::r.map (· +1)).zip (r++[x.length])).map (λp=>cl (strSub x p.1 p.2))=yb c l:=ih
     rw[<-ih]
     show cl (strSub x a e)::_=(y::cl (strSub x (a+1) e))::_
     simp only[iU,iU,h,hd,show e-a=(e-(a+1))+1 by exact Ku he];rfl
theorem xR(x:Str)(c:Nat):(partsBetween x (occurrences x ⟨#[c]⟩ 0 x.length (x.length+1)) 1).map cl=yb c (cl x):=by
 unfold partsBetween
 rw[xQ,cN]
 have:=uD x c (cl x) 0 (List.drop_zero ..) (by simp only[cQ,Nat.zero_add])
 rw[cQ] at this
 exact this
theorem Em{x:Str}{c:Nat}(hc:c<256)(hx:c∈cl x):Txt.split x ⟨#[c]⟩=(yb c (cl x)).map toS:=by
 have h1:(decide (x.length<(⟨#[c]⟩:Str).length)||decide (Builtin.Str.strKind x<Builtin.Str.strKind ⟨#[c]⟩))=false:=by
  have a1: ¬x.length<1:=by
   have:=List.length_pos_of_mem hx
   rw[cQ] at this;exact Ph this
  have a2:Builtin.Str.strKind ⟨#[c]⟩=1:=by
   unfold Builtin.Str.strKind
   rw[af]
   simp[hc]
  have a3:1<=Builtin.Str.strKind x:=by unfold Builtin.Str.strKind;split;exact aR 1;split<;>decide
  rw[Bool.or_eq_false_iff,decide_eq_false_iff_not,decide_eq_false_iff_not,a2]
  exact⟨a1,Pj a3⟩
 have h2:(occurrences x ⟨#[c]⟩ 0 x.length (x.length+1)).isEmpty=false:=by
  obtain⟨i,hi⟩:=rG.mp hx
  have hm:i∈occurrences x ⟨#[c]⟩ 0 x.length (x.length+1):=by
   rw[xQ]
   refine fh.mpr ⟨?_,by simpa using hi⟩
   rw[List.mem_range'_1]
   obtain⟨q,_⟩:=iW.mp hi
   rw[cQ] at q
   exact S9 q
  cases h:occurrences x ⟨#[c]⟩ 0 x.length (x.length+1) with
  |nil=>rw[h] at hm;cases hm
  |cons _ _=>rfl
 unfold Txt.split
 rw[h1,h2,aa (by decide),aa (by decide)]
 have:=congrArg (List.map toS) (xR x c)
 rw[cN] at this
 rw[<-this]
 show partsBetween x _ 1=_
 refine((List.map_congr_left λy _=>?_).trans (List.map_id _)).symm
 exact toS_cl y
theorem contains_iff{x:Str}{c:Nat}:Txt.contains x ⟨#[c]⟩=true↔c∈cl x:=by
 unfold Txt.contains
 rw[StrLaws.found_iff]
 constructor
 · rintro ⟨i,_,h⟩
   exact pJ (subAt_one.mp h)
 · intro h
   obtain⟨i,hi⟩:=rG.mp h
   refine⟨i,?_,subAt_one.mpr hi⟩
   obtain⟨q,_⟩:=iW.mp hi
   rw[cQ] at q
   exact q
theorem En{c:Nat}: ∀{l:List Nat},(∀x∈l,x≠c)->yb c l=[l]
 |[],_=>rfl
 |x::l,h=>by
  show(if x=c then _ else _)=_
  rw[aa (h x (.head _)),En λy hy=>h y (.tail _ hy)]
theorem rA{c:Nat}(r:List Nat): ∀{l:List Nat},(∀x∈l,x≠c)->yb c (l++c::r)=l::yb c r
 |[],_=>by show(if c=c then _ else _)=_;rw[af rfl]
 |x::l,h=>by
  show(if x=c then _ else _)=_
  rw[aa (h x (.head _)),List.append_eq,rA r λy hy=>h y (.tail _ hy)]
noncomputable def bw(w:List Nat):List Nat:=w++[92,34,92,92]
noncomputable def tx(last:List Nat):List (List Nat×List Nat)->List Nat
 |[]=>last
 |p::r=>p.1++34::(bw p.2++34::tx last r)
noncomputable abbrev Pure(l:List Nat):Prop:=∀c∈l,c≠34/\ c≠92
structure xS(sg:List (List Nat×List Nat)):Prop where
 o: ∀p∈sg,Pure p.1/\ p.1≠[]
 w: ∀p∈sg,Pure p.2
theorem xS.tail{p:List Nat×List Nat}{sg:List (List Nat×List Nat)}(h:xS (p::sg)):xS sg:=⟨λq hq=>h.o q (.tail _ hq),λq hq=>h.w q (.tail _ hq)⟩
theorem Eo{last:List Nat}(hl:Pure last): ∀{sg:List (List Nat×List Nat)},xS sg->yb 34 (tx last sg)=sg.foldr (λp r=>p.1::(p.2++[92])::[92,92]::r) [last]
 |[],_=>En λc hc=>(hl c hc).1
 |p::sg,h=>by
  have hw:=h.w p (.head _)
  show yb 34 (p.1++34::(bw p.2++34::tx last sg))=_
  rw[rA _ λc hc=>((h.o p (.head _)).1 c hc).1]
  have e:bw p.2++34::tx last sg=(p.2++[92])++34::([92,92]++34::tx last sg):=by unfold bw;simp
  rw[e,rA,rA,Eo hl h.tail]
  · rfl
  · intro c hc
    simp at hc;lia
  · intro c hc
    rcases bB.mp hc with q|q
    · exact(hw c q).1
    · rw[ay.mp q];decide
theorem lP: ∀{l:List Nat} (r:List Nat),Pure l->fu false (l++r)=fu false r
 |[],_,_=>rfl
 |c::l,r,h=>by
  show(if c=92 then fu true (l++r) else fu false (l++r))=_
  rw[aa (h c (.head _)).2,lP r λx hx=>h x (.tail _ hx)]
theorem Ep{last:List Nat}(hl:Pure last): ∀{sg:List (List Nat×List Nat)},xS sg->fu false (tx last sg)=false
 |[],_=>by
  have:=lP [] hl
  rw[ez] at this
  exact this
 |p::sg,h=>by
  show fu false (p.1++34::(bw p.2++34::tx last sg))=false
  rw[lP _ (h.o p (.head _)).1]
  show fu false (bw p.2++34::tx last sg)=false
  unfold bw
  rw[lq,lP _ (h.w p (.head _))]
  exact Ep hl h.tail
theorem rB(x:Str): ∀{l:List Nat} (r:List Nat) (i:Nat) (last:Int) (st:jt),Pure l-> ∃sY,(aZ false (l++r) i last).foldl (bz x) st=(aZ false r (i+l.length) sY).foldl (bz x) st
 |[],r,i,last,st,_=>⟨last,rfl⟩
 |c::l,r,i,last,st,h=>by
  obtain⟨sY,e⟩:=rB x r (i+1) i st (λy hy=>h y (.tail _ hy):Pure l)
  refine⟨sY,?_⟩
  simp only[List.cons_append,aZ,aa (h c (.head _)).2,fR]
  have e2:bz x st ((i:Int),⟨#[c]⟩)=st:=by
   unfold bz
   rw[aa]
   show ¬[c]=[34]
   intro q
   injection q with q
   exact(h c (.head _)).1 q
  simp only[e2,e,eF,show i+1+l.length=i+(l.length+1) by lia]
theorem sZ(x:Str)(st:jt)(i:Int):bz x st (i,⟨#[34]⟩)=(match st.open_ with
 |none=>⟨st.start,some i,st.res⟩
 |some o=>⟨i+1,none,if st.start=o then st.res else st.res++[Txt.slice x (some st.start) (some o)]⟩):=by
 unfold bz
 rw[af rfl]
 all_goals rfl
theorem BP(x:Str){p:List Nat×List Nat}{r pre:List Nat}{res:List Str}(last:Int)(ho:Pure p.1)(iO:p.1≠[])(hw:Pure p.2)(hx:cl x=pre++(p.1++34::(bw p.2++34::r))):
 ∃sY,(aZ false (p.1++34::(bw p.2++34::r)) pre.length last).foldl (bz x) ⟨(pre.length:Int),none,res⟩=
  (aZ false r (pre++(p.1++34::(bw p.2++[34]))).length sY).foldl (bz x) ⟨((pre++(p.1++34::(bw p.2++[34]))).length:Int),none,res++[toS p.1]⟩:=by
 obtain⟨l1,e1⟩:=rB x (34::(bw p.2++34::r)) pre.length last ⟨(pre.length:Int),none,res⟩ ho
 rw[e1,aZ,aa (by decide),fR,sZ]
 generalize hi:pre.length+p.1.length=i
 have eb:bw p.2++34::r=p.2++([92,34,92,92]++34::r):=by unfold bw;rw[lq]
 show ∃sY,(aZ false (bw p.2++34::r) (i+1) (i:Int)).foldl (bz x) ⟨(pre.length:Int),some (i:Int),res⟩=_
 rw[eb]
 obtain⟨l2,e2⟩:=rB x ([92,34,92,92]++34::r) (i+1) i ⟨(pre.length:Int),some (i:Int),res⟩ hw
 rw[e2]
 generalize hj:i+1+p.2.length=j
 show ∃sY,(aZ false (92::34::92::92::34::r) j l2).foldl (bz x) _=_
 have el:(pre++(p.1++34::(bw p.2++[34]))).length=j+1+1+1+1+1:=by
  unfold bw
  simp only[cF,eF,List.length_nil]
  exact Xo hj hi
 refine⟨((j+1+1+1+1:Nat):Int),?_⟩
 rw[el]
 have esc: ∀(st:jt) (k:Int) (c:Nat),bz x st (k,Str.ofString "\\" ++⟨#[c]⟩)=st:=λst k c=>by
  unfold bz
  rw[aa]
  show ¬cl (Str.ofString "\\" ++⟨#[c]⟩)=[34]
  rw[jH,show cl (Str.ofString "\\")=[92] by decide]
  intro q
  have:=congrArg List.length q
  simp at this
 rw[aZ,af rfl,aZ,fR,esc,aZ,af rfl,aZ,fR,esc,aZ,aa (by decide),fR,sZ]
 have Cq:Txt.slice x (some (pre.length:Int)) (some (i:Int))=toS p.1:=by
  refine sS ?_
  simp only[oZ x pre.length i (by rw[<-cQ,hx,cF];exact ZS) (QG hi),gA]
  show((cl x).drop pre.length).take (i-pre.length)=p.1
  simp only[hx,List.drop_left,show i-pre.length=p.1.length by lia,List.take_left]
 have Zp: ¬((pre.length:Int)=(i:Int)):=by
  have:=List.length_pos_iff.mpr iO
  exact Vp hi this
 show(aZ false r (j+1+1+1+1+1) _).foldl (bz x) ⟨((j+1+1+1+1:Nat):Int)+1,none,if(pre.length:Int)=(i:Int) then res else res++[Txt.slice x (some (pre.length:Int)) (some (i:Int))]⟩=_
 rw[aa Zp,Cq]
 rfl
theorem uE(x:Str){last:List Nat}(hl:Pure last): ∀(sg:List (List Nat×List Nat)) (pre:List Nat) (res:List Str) (la:Int),xS sg->cl x=pre++tx last sg->
 ∃vU,cl x=vU++last/\ (aZ false (tx last sg) pre.length la).foldl (bz x) ⟨(pre.length:Int),none,res⟩=⟨(vU.length:Int),none,res++sg.map λp=>toS p.1⟩
 |[],pre,res,la,_,hx=>by
  obtain⟨l1,e1⟩:=rB x [] pre.length la ⟨(pre.length:Int),none,res⟩ hl
  rw[ez] at e1
  refine⟨pre,hx,?_⟩
  show(aZ false last pre.length la).foldl (bz x) _=_
  simp only[e1,List.map_nil,ez];rfl
 |p::sg,pre,res,la,h,hx=>by
  obtain⟨h1,h2⟩:=h.o p (.head _)
  obtain⟨l1,e1⟩:=BP x (res:=res) la h1 h2 (h.w p (.head _)) hx
  obtain⟨vU,e2,e3⟩:=uE x hl sg (pre++(p.1++34::(bw p.2++[34]))) (res++[toS p.1]) l1 h.tail (by rw[hx];simp[tx])
  refine⟨vU,e2,?_⟩
  show(aZ false (p.1++34::(bw p.2++34::tx last sg)) pre.length la).foldl (bz x) _=_
  simp only[e1,e3,bN,lq];rfl
theorem o_:Str.ofString "\"" =⟨#[34]⟩:=by decide
theorem Er{x:Str}{last:List Nat}{sg:List (List Nat×List Nat)}(hl:Pure last)(iO:last≠[])(h:xS sg)(hs:sg≠[])(hx:cl x=tx last sg):cl (cZ x)=(sg.flatMap (·.1))++last:=by
 have hq:(34:Nat)∈cl x:=by
  rw[hx]
  cases sg with
  |nil=>exact absurd rfl hs
  |cons p r=>show 34∈p.1++34::_;simp
 have hc:Txt.contains x (Str.ofString "\"")=true:=by rw[o_];exact contains_iff.mpr hq
 unfold cZ
 rw[af hc]
 obtain⟨vU,e1,e2⟩:=uE x hl sg [] [] 0 h (by simpa using hx)
 have e3:dD x (bJ x)=⟨(vU.length:Int),none,sg.map λp=>toS p.1⟩:=by
  delta dD bJ
  rw[show x.cps.toList=tx last sg from hx]
  exact e2
 rw[e3]
 unfold oB
 have hlen:x.length=vU.length+last.length:=by rw[<-cQ,e1,cF]
 have:=List.length_pos_iff.mpr iO
 rw[af (show(vU.length:Int)<(x.length:Int) by exact Va this hlen),vQ,List.flatMap_append]
 congr 1
 · rw[List.flatMap_map]
 · show cl (Txt.slice x (some (vU.length:Int)) none)++[]=last
   simp only[ez,uB x _ (QH hlen),e1,List.drop_left]
noncomputable def yc:Int->List Nat->Bool
 |o,[]=>o==0
 |o,c::r=>if c=40 then yc (o+1) r else if c=41 then(if o-1<0 then false else yc (o-1) r) else yc o r
theorem xT: ∀{l:List Nat} (o:Int) (i:Nat) (la:Int),Pure l->gy o (aZ false l i la)=yc o l
 |[],_,_,_,_=>rfl
 |c::l,o,i,la,h=>by
  rw[aZ,aa (h c (.head _)).2]
  have ih:=λo'=>xT o' (i+1) i (λy hy=>h y (.tail _ hy):Pure l)
  unfold gy yc
  show(if[c]=[40] then _ else if[c]=[41] then _ else _)=_
  rw[ih,ih,ih]
  have e: ∀n:Nat,([c]=[n])=(c=n):=λn=>by simp
  simp only[e]
theorem jw{x:Str}(h:Pure (cl x)):cZ x=x:=by
 unfold cZ
 rw[aa]
 rw[o_]
 intro q
 exact(h 34 (contains_iff.mp q)).1 rfl
theorem jf{x:Str}(h:Pure (cl x)):fW x=false:=by
 have:=lP [] h
 rw[ez] at this
 exact this
theorem lQ{x:Str}(h:Pure (cl x)):checkOf x=yc 0 (cl x):=by
 unfold checkOf
 rw[jw h]
 exact xT 0 0 0 h
theorem xU{x:Str}(h:Pure (cl x))(p e:Nat):Pure (cl (kX x p e)):=by
 intro c hc
 unfold kX at hc
 by_cases q:p<=x.length/\ p<=e+1
 · rw[show((e:Int)+1)=((e+1:Nat):Int) by lia,oZ x p (e+1) q.1 q.2] at hc
   exact h c (List.mem_of_mem_drop (List.mem_of_mem_take hc))
 ·
  unfold Txt.slice at hc
  split at hc
  · exact h c hc
  · rw[xM] at hc
    obtain⟨i,_,hi⟩:=rF.mp hc
    exact h c (pJ hi)
noncomputable abbrev rp(m:Int):List Nat:=List.replicate m.toNat 41
noncomputable def cK(ds:List Int):List Nat:=([40]++(rp (ds.getD 0 0+1-ds.getD 1 0)++[40])++(rp (ds.getD 1 0+1-ds.getD 2 0)++[40])++(rp (ds.getD 2 0+1-ds.getD 3 0)++[40])++(rp (ds.getD 3 0+1-ds.getD 4 0)++[40])++(rp (ds.getD 4 0+1-ds.getD 5 0)++[40]))++rp (ds.getD 5 0+1)
noncomputable def wm(w:List Nat)(p:Nat):Nat:=((List.range w.length).find? λq=>decide (p+1<=q)&&w[q]? ==some 41&&yc 0 ((w.drop p).take (q+1-p))).getD 0
noncomputable def xV(ds:List Int):Bool:=
 decide ((cK ds).length<=12)&&(cK ds).all (λc=>c==40||c==41)&&yc 0 (cK ds)&& !yc 0 ((cK ds).drop 1++[40])&&
 (List.range 12).all (λp=>(cK ds)[p]? !=some 40||(decide (p+1<=wm (cK ds) p)&&decide (wm (cK ds) p<(cK ds).length)&&(cK ds)[wm (cK ds) p]? ==some 41&&yc 0 (((cK ds).drop p).take (wm (cK ds) p+1-p))&&
   (List.range 12).all (λq=>!(decide (p+1<=q)&&decide (q<wm (cK ds) p)&&(cK ds)[q]? ==some 41)|| !yc 0 (((cK ds).drop p).take (q+1-p)))))&&
 ((List.range (cK ds).length).filterMap (λp=>if(cK ds)[p]? =some 40 then some (((wm (cK ds) p:Int)+1-p).fdiv 2) else none))==D_ (a_ ds)
theorem zg:(vO 5).all xV=true:=by decide+kernel
structure Np(ds:List Int)(w:List Nat):Prop where
 len:w.length<=12
 pure:Pure w
 b1:yc 0 w=true
 b2:yc 0 (w.drop 1++[40])=false
 ends:yJ (toS w) (wm w)
 sz:sizesOf (toS w) (wm w)=D_ (a_ ds)
theorem Es{ds:List Int}(h:ds∈vO 5):Np ds (cK ds):=by
 have h1:=dM.mp zg ds h
 unfold xV at h1
 simp only[cY] at h1
 obtain⟨⟨⟨⟨⟨a1,a2⟩,a3⟩,a4⟩,a5⟩,a6⟩:=h1
 have hlen:(cK ds).length<=12:=of_decide_eq_true a1
 have HF:Pure (cK ds):=λc hc=>by
  have:=dM.mp a2 c hc
  simp at this
  exact S_ this
 generalize cK ds=w at*
 have hg: ∀p:Nat,(toS w).cps[p]? =w[p]?:=λp=>by simp
 have jJ:cl (toS w)=w:=gA w
 have Cq:(toS w).length=w.length:=by rw[<-cQ,jJ]
 have JF: ∀p q:Nat,p<=w.length->p<=q+1->checkOf (kX (toS w) p q)=yc 0 ((w.drop p).take (q+1-p)):=λp q hp hq=>by
  rw[lQ (xU (by rw[jJ];exact HF) p q)]
  unfold kX
  simp only[show((q:Int)+1)=((q+1:Nat):Int) by exact OQ,oZ (toS w) p (q+1) (by rw[Cq];exact hp) hq,jJ]
 have hp: ∀p,w[p]? =some 40->p<w.length/\ p<12/\ p+1<=wm w p/\ wm w p<w.length/\ w[wm w p]? =some 41/\ yc 0 ((w.drop p).take (wm w p+1-p))=true/\ ∀q,p+1<=q->q<wm w p->w[q]? =some 41->yc 0 ((w.drop p).take (q+1-p))=false:=λp e=>by
  obtain⟨h1,_⟩:=iW.mp e
  have h2:=dM.mp a5 p (bS.mpr (by lia))
  rw[Bool.or_eq_true] at h2
  rcases h2 with h2|h2
  · rw[e] at h2;simp at h2
  · simp only[cY] at h2
    refine bk λG hG=>?_
    obtain⟨⟨⟨⟨b1,b2⟩,b3⟩,b4⟩,b5⟩:=h2
    refine hG ?_;clear hG G
    have Om:wm w p<w.length:=of_decide_eq_true b2
    refine⟨h1,by lia,of_decide_eq_true b1,Om,by simpa using b3,b4,λq q1 q2 q3=>?_⟩
    have h3:=dM.mp b5 q (bS.mpr (by lia))
    simp only[q3,decide_eq_true q1,decide_eq_true q2] at h3
    simpa using h3
 refine⟨hlen,HF,a3,(Bool.not_eq_true' _).mp a4,⟨λp e=>?_,λp e=>?_,λp q e q1 q2 q3=>?_⟩,?_⟩
 · rw[hg] at e
   obtain⟨_,_,h1,h2,_⟩:=hp p e
   exact⟨h1,by rw[Cq];exact h2⟩
 · rw[hg] at e
   obtain⟨h0,_,h1,h2,h3,h4,_⟩:=hp p e
   exact⟨by rw[hg];exact h3,by rw[JF p _ (OA h0) (Q88 h1)];exact h4⟩
 · rw[hg] at e q3
   obtain⟨h0,_,h1,h2,h3,h4,h5⟩:=hp p e
   rw[JF p q (OA h0) (Q88 q1)]
   exact h5 q q1 q2 q3
 · have e:sizesOf (toS w) (wm w)=(List.range w.length).filterMap (λp=>if w[p]? =some 40 then some (((wm w p:Int)+1-p).fdiv 2) else none):=by
    unfold sizesOf
    rw[Cq]
    congr 1
    funext p
    unfold fX
    rw[hg]
   rw[e]
   simpa using a6
noncomputable def tO(ds:List Int)(w:Nat->List Nat):List (List Nat×List Nat):=
 [([40],w 0),(rp (ds.getD 0 0+1-ds.getD 1 0)++[40],w 1),(rp (ds.getD 1 0+1-ds.getD 2 0)++[40],w 2),(rp (ds.getD 2 0+1-ds.getD 3 0)++[40],w 3),(rp (ds.getD 3 0+1-ds.getD 4 0)++[40],w 4),(rp (ds.getD 4 0+1-ds.getD 5 0)++[40],w 5)]
theorem Gj(w:Str):cl (eV w)=40::34::(bw (cl w)++[34]):=by
 unfold eV
 rw[jH,jH,show cl (Str.ofString "(\"")=[40,34] by decide,show cl (Str.ofString "\\\"\\\\\"")=[92,34,92,92,34] by decide]
 unfold bw;simp
theorem uF{m:Int}(h:0<=m):cl (Txt.mul (Str.ofString ")") m)=rp m:=by
 rw[zc _ h,show cl (Str.ofString ")")=[41] by decide,sU]
theorem Gk{d0 d1 d2 d3 d4 d5:Int}{w0 w1 w2 w3 w4 w5:Str}(h0:0<=d0+1-d1)(h1:0<=d1+1-d2)(h2:0<=d2+1-d3)(h3:0<=d3+1-d4)(h4:0<=d4+1-d5)(h5:0<=d5+1):
 cl (textOf [d0,d1,d2,d3,d4,d5] [w0,w1,w2,w3,w4,w5])=tx (rp (d5+1)) (tO [d0,d1,d2,d3,d4,d5] λk=>cl ([w0,w1,w2,w3,w4,w5].getD k "")):=by
 have e:textOf [d0,d1,d2,d3,d4,d5] [w0,w1,w2,w3,w4,w5]=((((((((((eV w0++Txt.mul (Str.ofString ")") (d0+1-d1))++eV w1)++Txt.mul (Str.ofString ")") (d1+1-d2))++eV w2)++Txt.mul (Str.ofString ")") (d2+1-d3))++eV w3)++Txt.mul (Str.ofString ")") (d3+1-d4))++eV w4)++Txt.mul (Str.ofString ")") (d4+1-d5))++eV w5)++Txt.mul (Str.ofString ")") (d5+1):=rfl
 rw[e]
 simp only[jH,Gj,uF h0,uF h1,uF h2,uF h3,uF h4,uF h5]
 unfold tO
 simp only[tx,List.getD_cons_zero,List.getD_cons_succ]
 simp
end Mine
end
section
open PySem PySem.W PyProof.Rows PySem.Challenge
open Builtin Builtin.Str
namespace Mine
noncomputable def s_(K:Frag)(a:Addr):Option Data:=(K.lookup a).map (·.data)
noncomputable def ql(K:Frag)(a:Addr):FuncData:=match s_ K a with|some (.func fd)=>fd|_=>Calls.docDef "" (pX default) [] (fScope default) .none .none .none
structure jm(K:Frag)(n:Nat)(a c:Addr):Prop where
 glob:nsIn K mainGlobals (dI (bW n))=some (some (.ref a))
 fn:s_ K a=some (.func (Calls.docDef (dI (bW n)) (pX (bW n)) (fBody (bW n)) (fScope (bW n)) (ql K a).pyModule (.ref c) (ql K a).doc))
 code:codeIn K (.ref c) (dI (bW n))=true
structure MetK(K:Frag)(n:Nat)(a c:Addr):Prop where
 fn:s_ K a=some (.func (fnOf (dI (eO n)) ("Whitespace." ++dI (eO n)) (pX (eO n)) (fBody (eO n)) (fScope (eO n)) .none .none (ql K a).doc (ql K a).pyModule (ql K a).annotations (.ref c) (ql K a).closureTuple))
 code:codeIn K (.ref c) ("Whitespace." ++dI (eO n))=true
theorem AE{K:Frag}{h:Heap}{a:Addr}{d:Data}(X:K.In h)(e:s_ K a=some d): ∃o,h.get? a=some o/\ o.data=d:=by
 unfold s_ at e
 obtain⟨o,ho,rfl⟩:=pL.mp e
 exact⟨o,X _ _ ho,rfl⟩
structure zh(K:Frag)(mg mb:Str->Option Value)(bm:Addr)(h:Heap):Prop where
 k:K.In h
 g:h.Ns mainGlobals mg
 b:h.Ns builtinsNs mb
 nl:h.NoLimit
 bm: ∃o,h.get? bm=some o/\ o.cls= .type "module" /\ o.dict=some builtinsNs/\ o.data= .plain
theorem zh.keeps{K:Frag}{mg mb:Str->Option Value}{bm:Addr}{h h':Heap}(x:zh K mg mb bm h)(k: ∀b o,h.get? b=some o->h'.get? b=some o):zh K mg mb bm h':=
 ⟨x.k.keeps k,cT x.g λo e=>k _ _ e,cT x.b λo e=>k _ _ e,x.nl.keeps k,let⟨o,e,r⟩:=x.bm;⟨o,k _ _ e,r⟩⟩
noncomputable def kg(prog:Program)(w:World)(wc:Addr)(K:Frag)(mg mb:Str->Option Value)(bm:Addr):Cx where
 prog:=prog
 w:=w
 wc:=wc
 B:=zh K mg mb bm
 keeps:=λ_ _ x k=>x.keeps k
 nolimit:=λ_ x=>x.nl
section
variable{prog:Program}{w:World}{wc:Addr}{K:Frag}{mg mb:Str->Option Value}{bm:Addr}
theorem defAt{n:Nat}{a c:Addr}(x:jm K n a c):bu (kg prog w wc K mg mb bm) n a/\ oH (kg prog w wc K mg mb bm) a (dI (bW n)) (pX (bW n)) (fBody (bW n)) (fScope (bW n)) c:=by
 have h2:oH (kg prog w wc K mg mb bm) a (dI (bW n)) (pX (bW n)) (fBody (bW n)) (fScope (bW n)) c:=λh B=>by
  obtain⟨o,ho,hd⟩:=AE B.k x.fn
  exact⟨o,_,_,ho,hd,codeRec_of B.k x.code⟩
 exact⟨⟨λh B=>⟨mg,B.g,mg_of B.k B.g x.glob⟩,h2.fn⟩,h2⟩
theorem Et{n:Nat}{a c:Addr}(x:MetK K n a c):vj (kg prog w wc K mg mb bm) n a:=λh B=>by
 obtain⟨o,ho,hd⟩:=AE B.k x.fn
 exact⟨o,_,_,_,_,_,ho,hd,codeRec_of B.k x.code⟩
theorem zj{x:Str}{i:Int}(e: ∃t,nsIn K mainGlobals x=some (some (.int i t))):jT (kg prog w wc K mg mb bm) x (.int i):=λh B=>by
 obtain⟨t,hk⟩:=e
 exact⟨mg,_,B.g,mg_of B.k B.g hk,λP=>⟨_,rfl⟩⟩
theorem Gl{x:Str}{a:Addr}(e:nsIn K mainGlobals x=some (some (.ref a))):jT (kg prog w wc K mg mb bm) x (.addr a):=λh B=>⟨mg,_,B.g,mg_of B.k B.g e,λP=>rfl⟩
theorem Nq{x:Str}{v:Value}(Zq: ∀x:Str,x≠ "__name__" ->mb x=bootBuiltins x)(e:nsIn K mainGlobals x=some none)(hv:bootBuiltins x=some v)(hn:x≠ "__name__"):bT (kg prog w wc K mg mb bm) x v:=λh B=>
 ⟨mg,mb,B.g,mg_none_of B.k B.g e,B.b,(Zq x hn).trans hv⟩
theorem tabAt{t:qQ}(e:codeHdIn K t.c t.P=true)(hb:mg "__builtins__" =some (.ref bm))(h1:bm≠builtinsNs)(h2:bm≠mainGlobals)(h3:bm≠t.P)(h4:mainGlobals≠t.P):xj (kg prog w wc K mg mb bm) t:=λh B=>by
 let⟨o,ho,hr⟩:=B.bm
 exact⟨codeHd_of_K B.k e,h4,mg,B.g,bm,o,hb,h1,h2,h3,ho,hr⟩
structure Zr(K:Frag)(wc f:Addr):Prop extends WsCls K wc f where
 glob:nsIn K mainGlobals "Whitespace" =some (some (.ref wc))
 keep:keepIn K (.ref wc)=true
structure Eu(K:Frag)(wc:Addr)(n:Nat)(a c:Addr):Prop extends MetK K n a c where
 find:findIn K (.ref wc) (dI (eO n))=some (some (.ref a))
 ty:typeIn K (.ref a)=some (.type "function")
theorem AF{n:Nat}{a c:Addr}(x:Eu K wc n a c):fU (kg prog w wc K mg mb bm) K n a:=⟨Et x.toMetK,x.find,x.ty⟩
noncomputable def tg:List Str:=["len","tuple","range","max","sum","min","enumerate","divmod","reversed"]
structure Nr(K:Frag)(a:Dy)(wc:Addr)(cs:Nat->Addr)(T:jL)(D:List (Str×PyData)):Prop where
 it:jm K 2 a.it (cs 2)
 strip:jm K 3 a.strip (cs 3)
 ya:jm K 4 a.ya (cs 4)
 d2:jm K 7 a.d2 (cs 7)
 Bq:jm K 9 a.Bq T.t1.c
 Br:jm K 10 a.Br T.t2.c
 Hp:jm K 11 a.Hp (cs 11)
 k_:jm K 12 a.k_ (cs 12)
 mz:jm K 67 a.mz (cs 67)
 lK:jm K 68 a.lK (cs 68)
 words:jm K 70 a.words (cs 70)
 text:jm K 71 a.text (cs 71)
 lead:jm K 72 a.lead (cs 72)
 cols:jm K 73 a.cols (cs 73)
 number:jm K 74 a.number (cs 74)
 nF:jm K 75 a.nF (cs 75)
 sizes:jm K 76 a.sizes (cs 76)
 ja:jm K 77 a.ja (cs 77)
 weigh:jm K 78 a.weigh (cs 78)
 cls:Zr K wc a.init
 init:MetK K 1 a.init (cs 101)
 long:Eu K wc 2 a.long (cs 102)
 level:Eu K wc 3 a.level (cs 103)
 equal:Eu K wc 4 a.equal (cs 104)
 less:Eu K wc 6 a.less (cs 106)
 h1:codeHdIn K T.t1.c T.t1.P=true
 h2:codeHdIn K T.t2.c T.t2.P=true
 ne:T.t1.P≠T.t2.P
 m1:mainGlobals≠T.t1.P
 m2:mainGlobals≠T.t2.P
 q1:T.t1.qual= "_int2digits.<locals>.inner"
 q2:T.t2.qual= "_digits2int.<locals>.inner"
 p1:T.t1.pos=posOf (fy 9 1)
 p2:T.t2.pos=posOf (fy 10 0)
 Dz: ∃t,nsIn K mainGlobals "_DIV_LIMIT" =some (some (.int 4000 t))
 yI: ∃t,nsIn K mainGlobals "ENDMARKER" =some (some (.int 0 t))
 M1: ∃t,nsIn K mainGlobals "NT_OFFSET" =some (some (.int 256 t))
 By:nsIn K mainGlobals "EXACT_TOKEN_TYPES" =some (some (.ref a.JP))
 tab:KTD.tabLook KTD.flatLooks (λb=>K.lookup b) a.JP D=true
 nodup:(D.map (·.1)).Nodup
 vls: ∀p∈D,∃i,p.2= .int i
 blt: ∀x∈tg,nsIn K mainGlobals x=some none
theorem qL: ∀{D:List (Str×PyData)},(∀p∈D,∃i,p.2= .int i)->vD (D.map λp=>(PyData.str p.1,p.2))
 |[],_,x,v,e=>by cases e
 |p::D,h,x,v,e=>by
  rw[bN,Spec.lookup] at e
  split at e
  · injection e with e;subst e;exact h p (.head _)
  · exact qL (λq hq=>h q (.tail _ hq)) x v e
theorem Ew{cs:Nat->Addr}{T:jL}{a:Dy}{D:List (Str×PyData)}(X:Nr K a wc cs T D)(hq:KTD.hashesOf (λb=>K.lookup b) a.JP=D.map λp=>(PySem.strKind prog w).hash p.1)
 (Zq: ∀x:Str,x≠ "__name__" ->mb x=bootBuiltins x) (hb:mg "__builtins__" =some (.ref bm)) (h1:bm≠builtinsNs) (h2:bm≠mainGlobals) (h3:bm≠T.t1.P) (h4:bm≠T.t2.P):
 mJ (kg prog w wc K mg mb bm) T K (D.map λp=>(PyData.str p.1,p.2)) a:=by
 have bl: ∀{x:Str} {v:Value},x∈tg->bootBuiltins x=some v->x≠ "__name__" ->bT (kg prog w wc K mg mb bm) x v:=λhx hv hn=>Nq Zq (X.blt _ hx) hv hn
 have hlen:bT (kg prog w wc K mg mb bm) "len" (.builtin "len"):=bl (by decide) rfl (by decide)
 exact{
  it:=(defAt X.it).1
  strip:=(defAt X.strip).1
  ya:=(defAt X.ya).1
  d2:=(defAt X.d2).1
  Bq:=(defAt X.Bq).1
  Br:=(defAt X.Br).1
  Hp:=(defAt X.Hp).1
  k_:=(defAt X.k_).1
  mz:=(defAt X.mz).1
  lK:=(defAt X.lK).1
  words:=(defAt X.words).1
  text:=(defAt X.text).1
  lead:=(defAt X.lead).1
  cols:=(defAt X.cols).1
  number:=(defAt X.number).1
  nF:=(defAt X.nF).1
  sizes:=(defAt X.sizes).1
  ja:=(defAt X.ja).1
  weigh:=(defAt X.weigh).1
  cls:=⟨λh B=>B.k,X.cls.toWsCls,λh B=>⟨mg,B.g,mg_of B.k B.g X.cls.glob⟩,hlen,bl (by decide) rfl (by decide),bl (by decide) rfl (by decide),bl (by decide) rfl (by decide)⟩
  kc:=X.cls.keep
  init:=Et X.init
  long:=AF X.long
  level:=AF X.level
  equal:=AF X.equal
  less:=AF X.less
  tb:=⟨tabAt X.h1 hb h1 h2 h3 X.m1,tabAt X.h2 hb h1 h2 h4 X.m2,X.ne,X.q1,X.q2,X.p1,X.p2,(defAt X.Bq).2,(defAt X.Br).2,hlen⟩
  Dz:=zj X.Dz
  yI:=zj X.yI
  M1:=zj X.M1
  By:=Gl X.By
  tab:=λh B=>kt_tab_in prog w B.k X.tab X.nodup hq
  Jh:=qL X.vls
  sum:=bl (by decide) rfl (by decide)
  min:=bl (by decide) rfl (by decide)
  enum:=bl (by decide) rfl (by decide)
  dm:=bl (by decide) rfl (by decide)
  rev:=bl (by decide) rfl (by decide)}
end
noncomputable def AG(Tb:List (PyData×PyData)):Prop:=∀s:List Int,s.length<=63-> ∃(cells nums due aj:List Int) (rows:List (List Int)) (bL:List Str) (en:Nat->Nat) (text word:Str) (Ho at2:Int),Hw Tb s cells nums due aj rows bL en text word Ho at2
theorem Ey{K:Frag}{mg mb:Str->Option Value}{bm:Addr}{h:Heap}{T:jL}(x:zh K mg mb bm h)(hK: ∀b∈T.Ps,K.lookup b=none)(hT: ∀b∈T.Ps,h.get? b=some (tabObj #[]))(h1:mainGlobals∉T.Ps)(h2:builtinsNs∉T.Ps)(h3:cStatics∉T.Ps):zh K mg mb bm (hideAll h T.Ps) where
 k:=λa o e=>hideAll_get _ (x.k a o e) λm=>by rw[hK a m] at e;cases e
 g:=cT x.g λo e=>hideAll_get _ e h1
 b:=cT x.b λo e=>hideAll_get _ e h2
 nl:=x.nl.at λo e=>hideAll_get _ e h3
 bm:=by
  obtain⟨o,e,r⟩:=x.bm
  refine⟨o,hideAll_get _ e λm=>?_,r⟩
  rw[hT bm m] at e;cases e
  cases r.1
theorem xW:bH callerA 31:=⟨rfl,by decide,by decide⟩
theorem Gm{K:Frag}{prog:Program}{w:World}{wc bm f c l:Addr}{mg mb:Str->Option Value}{T:jL}{Tb:List (PyData×PyData)}{a:Dy}{ah:Shared}{s:List Int}{vs:List Value}
 (X:mJ (kg prog w wc K mg mb bm) T K Tb a) (fx:jm K 79 f c) (L:AG Tb) (hs:s.length<=63) (x:zh K mg mb bm ah.heap) (hT: ∀b∈T.Ps,ah.heap.get? b=some (tabObj #[])) (hK: ∀b∈T.Ps,K.lookup b=none)
 (h1:mainGlobals∉T.Ps) (h2:builtinsNs∉T.Ps) (h3:cStatics∉T.Ps) (hg:ah.gens= #[]) (hl:ah.heap.get? l=some {cls:=.type "list",data:=.seq vs.toArray}) (hI:IntsAre vs s):
 wpAny (model prog w) callerA (PySem.call (.ref f) [.ref l]) (λv s'=>v= .bool true/\ OldK ah.heap s'.heap/\ s'.os=ah.os/\ AllBare s'.gens) (λ_ _=>False) ah:=by
 obtain⟨cells,nums,due,aj,rows,bL,en,text,word,Ho,at2,F⟩:=L s hs
 have ht:TS T (λ_=>True) ah.heap:=⟨none,none,hT _ (.head _),hT _ (.tail _ (.head _)),trivial,trivial,(λ_ _=>trivial),λ_ _=>trivial⟩
 have hlen:vs.length=s.length:=by
  have:=(aU.ofInts (wc:=wc) (h:=ah.heap) (P:=λ_=>True) hI).length
  simpa using this
 have tb1:=X.tb.fx1 ah.heap x
 have MI:=X.tb.fx2 ah.heap x
 refine Nd (k:=0) (defAt fx).2 X F callerA ah [.ref l] (hideAll ah.heap T.Ps) (λ_=>True) _ xW (Ey x hK hT h1 h2 h3) (λb o e=>of_hideAll _ e) (λb hb=>hideAll_none _ hb) ht ?_ ?_
 · refine⟨.ref l,[],rfl,⟨l,vs.toArray,rfl,λm=>?_,⟨_,_,hl,rfl,rfl,rfl⟩,?_,?_⟩,rfl⟩
   · rw[hT l m] at hl;cases hl
   · have:sizeLine=16777216:=rfl
     simp;exact Un this hlen hs
   · exact aU.ofInts hI
 · intro v s' A t r
   refine⟨r,⟨λb o e=>?_,λb o e=>?_⟩,A.os,λy hy=>A.gens.2.2 (λy hy=>by rw[hg] at hy;simp at hy) y hy⟩
   · by_cases hb:b∈T.Ps
     · refine .inr (.inl ?_)
       obtain⟨ps,e2⟩:=t.obj b hb
       rw[hT b hb] at e;cases e
       have hc:isCodeTable ah.heap b:=by
        rcases aB.mp hb with rfl|hb
        · obtain⟨⟨o,vs,_,_,_,_,_,_,_,q1,q2,q3,q4,_⟩,_⟩:=tb1
          exact⟨_,o,vs,q1,q2,q3,q4⟩
        · rw[ay.mp hb]
          obtain⟨⟨o,vs,_,_,_,_,_,_,_,q1,q2,q3,q4,_⟩,_⟩:=MI
          exact⟨_,o,vs,q1,q2,q3,q4⟩
       exact⟨hc,rfl,#[],ps,rfl,by rw[e2];simp⟩
     · exact .inl (A.heap b o hb e)
   · by_cases hb:b∈T.Ps
     · obtain⟨ps,e2⟩:=t.obj b hb
       exact⟨_,e2⟩
     · exact⟨o,A.heap b o hb e⟩
theorem BQ{P:Params}{h:Heap}{a:Addr}{vs:List Value}{d:WData}{xs:List WData}(W:Well P h (.ref a) d)(e:d= .list xs)(hl:h.IsList a vs.toArray):h.get? a=some {cls:=.type "list",data:=.seq vs.toArray}:=by
 subst e
 cases W with
 |list ho _=>
  obtain⟨o,h1,_,n,h2⟩:=hl
  rw[ho] at h1;injection h1 with h1;subst h1;cases h2
  exact ho
end Mine
end
section
open PySem PySem.W PyProof.Rows PySem.Challenge
open Builtin.Str
namespace Mine
theorem AH(m:Int):Pure (rp m):=λc hc=>by rw[List.eq_of_mem_replicate hc];decide
theorem xX{a b:List Nat}(h:Pure a)(k:Pure b):Pure (a++b):=λc hc=>(bB.mp hc).elim (h c) (k c)
theorem zk:Pure [40]:=λc hc=>by rw[ay.mp hc];decide
theorem Nt{ds:List Int}{w:Nat->List Nat}(h: ∀k,k<6->Pure (w k)):xS (tO ds w):=by
 unfold tO
 constructor
 · intro p hp
   simp only[aB,ai,or_false] at hp
   rcases hp with rfl|rfl|rfl|rfl|rfl|rfl
   · exact⟨zk,by simp⟩
   all_goals exact⟨xX (AH _) zk,by simp⟩
 · intro p hp
   simp only[aB,ai,or_false] at hp
   rcases hp with rfl|rfl|rfl|rfl|rfl|rfl
   · exact h 0 (by decide)
   · exact h 1 (by decide)
   · exact h 2 (by decide)
   · exact h 3 (by decide)
   · exact h 4 (by decide)
   · exact h 5 (by decide)
theorem qm(m:Int)(h:m<=8):(rp m).length<=8:=by rw[rE];exact Qn h
theorem Nu{α:Type}(a0 a1 a2 a3 a4 a5 a6 a7 a8 a9 b0 b1 b2 b3 b4 b5 b6 b7 b8:α):
 pick [a0,a1,a2,a3,a4,a5,a6,a7,a8,a9,b0,b1,b2,b3,b4,b5,b6,b7,b8] none none (some 3)=[a0,a3,a6,a9,b2,b5,b8]/\
 pick [a0,a1,a2,a3,a4,a5,a6,a7,a8,a9,b0,b1,b2,b3,b4,b5,b6,b7,b8] (some 1) none (some 3)=[a1,a4,a7,b0,b3,b6]:=⟨by kernel_rfl,by kernel_rfl⟩
theorem Ez{α:Type}{l:List α}(h:l.length=6): ∃a b c d e f,l=[a,b,c,d,e,f]:=by
 refine bk λG hG=>?_
 obtain⟨a,l1,rfl,h1⟩:=AJ h
 obtain⟨b,l2,rfl,h2⟩:=AJ h1
 obtain⟨c,l3,rfl,h3⟩:=AJ h2
 obtain⟨d,e,f,rfl⟩:=BZ h3
 refine hG ?_;clear hG G
 exact⟨a,b,c,d,e,f,rfl⟩
theorem joinOk_of{l:List Str}(h:(l.map (·.length)).sum<=1000):JoinOk "" l=true:=by
 have key: ∀(l:List Str) (n:Nat),l.foldl (λa (s:Str)=>a+s.length+(Str.ofString "").length) n=n+(l.map (·.length)).sum:=by
  intro l
  induction l with
  |nil=>intro n;simp
  |cons s l ih=>
   intro n
   rw[fR,ih,bN,List.sum_cons,show(Str.ofString "").length=0 by decide];exact Uv
 delta JoinOk tooLong
 rw[List.foldl_toArray,key]
 have h2:sizeLine=16777216:=rfl
 rw[Bool.not_eq_true',decide_eq_false_iff_not,h2]
 exact Sn h
theorem cfx{ds:List Int}(jK:ds∈vO 5){n0 n1 n2 n3 n4 n5:Int}(hn: ∀j,j<6->7<=[n0,n1,n2,n3,n4,n5].getD j 0/\ [n0,n1,n2,n3,n4,n5].getD j 0<=54):
 Y6 nI ds ([n0,n1,n2,n3,n4,n5].map wordOf) [n0,n1,n2,n3,n4,n5] (wm (cK ds)) (textOf ds ([n0,n1,n2,n3,n4,n5].map wordOf)) (toS (cK ds)):=by
 have S:=zf jK
 have W:=Es jK
 refine bk λG hG=>?_
 obtain⟨d0,d1,d2,d3,d4,d5,rfl⟩:=Ez S.len
 refine hG ?_;clear hG G
 have hd:=S.dd
 have he:=S.de
 have EF:=hd 0 (by decide)
 have Jz:=hd 1 (by decide)
 have hd2:=hd 2 (by decide)
 have Zs:=hd 3 (by decide)
 have Zt:=hd 4 (by decide)
 simp only[List.getD_cons_zero,List.getD_cons_succ] at EF Jz hd2 Zs Zt he
 have hw: ∀k,k<6->jI ([n0,n1,n2,n3,n4,n5].getD k 0):=λk hk=>ry (hn k hk)
 have JJ: ∀k,k<6->(([n0,n1,n2,n3,n4,n5].map wordOf).getD k "")=wordOf ([n0,n1,n2,n3,n4,n5].getD k 0):=nJ rfl (nJ rfl (nJ rfl (nJ rfl (nJ rfl (nJ rfl JY)))))
 have Mq: ∀k,k<6->Pure (cl (([n0,n1,n2,n3,n4,n5].map wordOf).getD k "")):=λk hk=>by rw[JJ k hk];exact(hw k hk).no
 have hx:cl (textOf [d0,d1,d2,d3,d4,d5] ([n0,n1,n2,n3,n4,n5].map wordOf))=tx (rp (d5+1)) (tO [d0,d1,d2,d3,d4,d5] λk=>cl (([n0,n1,n2,n3,n4,n5].map wordOf).getD k "")):=Gk EF.1 Jz.1 hd2.1 Zs.1 Zt.1 (Pz he.1)
 have Zu:=Nt (ds:=[d0,d1,d2,d3,d4,d5]) Mq
 have EA:Pure (rp (d5+1)):=AH _
 have Zv:rp (d5+1)≠[]:=by
  intro q
  have:=congrArg List.length q
  rw[rE] at this
  simp at this
  lia
 generalize Nv:textOf [d0,d1,d2,d3,d4,d5] ([n0,n1,n2,n3,n4,n5].map wordOf)=text at*
 have EB:cZ text=toS (cK [d0,d1,d2,d3,d4,d5]):=by
  refine sS ?_
  simp only[Er EA Zv Zu (by unfold tO;simp) hx,gA]
  unfold tO cK
  simp
 have Ny:yb 34 (cl text)=(tO [d0,d1,d2,d3,d4,d5] λk=>cl (([n0,n1,n2,n3,n4,n5].map wordOf).getD k "")).foldr (λp r=>p.1::(p.2++[92])::[92,92]::r) [rp (d5+1)]:=by rw[hx];exact Eo EA Zu
 have hq:(34:Nat)∈cl text:=by rw[hx];unfold tO tx;simp
 have vV:piecesOf text=(yb 34 (cl text)).map toS:=by
  unfold piecesOf
  rw[o_]
  exact Em (by decide) hq
 rw[Ny] at vV
 have l0:=qm _ EF.2
 have l1:=qm _ Jz.2
 have l2:=qm _ hd2.2
 have l3:=qm _ Zs.2
 have l4:=qm _ Zt.2
 have l5:=qm (d5+1) (PB he.2)
 have wj: ∀k,k<6->(cl (([n0,n1,n2,n3,n4,n5].map wordOf).getD k "")).length<=3:=λk hk=>by rw[JJ k hk,cQ];exact(hw k hk).len
 have w0:=wj 0 (by decide)
 have w1:=wj 1 (by decide)
 have w2:=wj 2 (by decide)
 have w3:=wj 3 (by decide)
 have w4:=wj 4 (by decide)
 have w5:=wj 5 (by decide)
 have htl:text.length<=1000:=by
  rw[<-cQ,hx]
  unfold tO tx bw
  simp only[List.getD_cons_zero,List.getD_cons_succ,tx,bw,cF,eF,List.length_nil]
  exact Xz w0 w1 w2 w3 w4 w5 l0 l1 l2 l3 l4 l5
 have Jw:(toS (cK [d0,d1,d2,d3,d4,d5])).length<=12:=by rw[<-cQ,gA];exact W.len
 have Ot:Pure (cl (toS (cK [d0,d1,d2,d3,d4,d5]))):=by rw[gA];exact W.pure
 have Nz:cl (qS (toS (cK [d0,d1,d2,d3,d4,d5])))=(cK [d0,d1,d2,d3,d4,d5]).drop 1++[40]:=by
  unfold qS
  have h1:1<=(toS (cK [d0,d1,d2,d3,d4,d5])).length:=by
   rw[<-cQ,gA]
   unfold cK
   simp
  simp only[jH,show(1:Int)=((1:Nat):Int) from rfl,uB _ 1 h1,gA];rfl
 have AI:Pure (cl (qS (toS (cK [d0,d1,d2,d3,d4,d5])))):=by
  rw[Nz]
  exact xX (λc hc=>W.pure c (List.mem_of_mem_drop hc)) zk
 have Oi:=Nu (toS [40]) (toS (cl (wordOf n0)++[92])) (toS [92,92]) (toS (rp (d0+1-d1)++[40])) (toS (cl (wordOf n1)++[92])) (toS [92,92]) (toS (rp (d1+1-d2)++[40])) (toS (cl (wordOf n2)++[92])) (toS [92,92])
  (toS (rp (d2+1-d3)++[40])) (toS (cl (wordOf n3)++[92])) (toS [92,92]) (toS (rp (d3+1-d4)++[40])) (toS (cl (wordOf n4)++[92])) (toS [92,92]) (toS (rp (d4+1-d5)++[40])) (toS (cl (wordOf n5)++[92])) (toS [92,92]) (toS (rp (d5+1)))
 have Ir:pick (piecesOf text) none none (some 3)=[toS [40],toS (rp (d0+1-d1)++[40]),toS (rp (d1+1-d2)++[40]),toS (rp (d2+1-d3)++[40]),toS (rp (d3+1-d4)++[40]),toS (rp (d4+1-d5)++[40]),toS (rp (d5+1))]:=by rw[vV];exact Oi.1
 have G0:pick (piecesOf text) (some 1) none (some 3)=[toS (cl (wordOf n0)++[92]),toS (cl (wordOf n1)++[92]),toS (cl (wordOf n2)++[92]),toS (cl (wordOf n3)++[92]),toS (cl (wordOf n4)++[92]),toS (cl (wordOf n5)++[92])]:=by rw[vV];exact Oi.2
 have JR: ∀n,jI n->numberOf nI (toS (cl (wordOf n)++[92])) 0=n:=λn h=>by
  have:=uC (T:=nI) (x:=toS (cl (wordOf n)++[92])) (i:=0) (gi _)
  simp only[gA,List.drop_zero,h.nb] at this
  exact this
 have v0:jI n0:=hw 0 (by decide)
 have v1:jI n1:=hw 1 (by decide)
 have v2:jI n2:=hw 2 (by decide)
 have v3:jI n3:=hw 3 (by decide)
 have v4:jI n4:=hw 4 (by decide)
 have v5:jI n5:=hw 5 (by decide)
 refine⟨Nv.symm,EB.symm,htl,Pn Jw,?_,jf Ot,rfl,rfl,?_,?_,⟨he.1,he.2⟩,?_,?_,?_,?_,jf AI,?_,?_,W.ends,λp e=>?_,?_,?_,?_,?_,?_,rfl⟩
 · show fu false (cl text)=false
   rw[hx]
   exact Ep EA Zu
 · intro x ET
   obtain⟨n,uc,rfl⟩:=aQ.mp ET
   obtain⟨j,hj⟩:=rG.mp uc
   have Hv:j<6:=(iW.mp hj).1
   have:=hw j Hv
   rw[bM,hj] at this
   exact aX this.len (by decide)
 · intro j hj
   have hj5:j<5:=by
    have:j+1<6:=hj
    exact PC this
   exact S.dd j hj5
 · have h1:=congrArg List.length (xR text 34)
   simp only[aM,Ny] at h1
   have h2:sizeLine=16777216:=rfl
   rw[o_]
   show(partsBetween text (occurrences text ⟨#[34]⟩ 0 text.length (text.length+1)) 1).length<=sizeLine
   simp only[h1,h2]
   exact cB rfl
 · rw[Ir]
   refine sS ?_
   simp only[vQ,gA]
   simp only[List.flatMap_cons,List.flatMap_nil,gA]
   unfold cK
   simp
 · rw[Ir]
   have hl: ∀l:List Nat,(toS l).length=l.length:=λl=>by rw[<-cQ,gA]
   refine joinOk_of ?_
   simp only[bN,List.map_nil,List.sum_cons,List.sum_nil,hl,cF,eF,List.length_nil]
   exact Xs l0 l1 l2 l3 l4 l5
 · unfold checkOf
   rw[EB]
   have:=lQ Ot
   unfold checkOf at this
   rw[jw Ot] at this
   rw[this,gA];exact W.b1
 · rw[jw AI];exact jf AI
 · rw[lQ AI,Nz];exact W.b2
 · have h1:=xU Ot p e
   rw[jw h1]
   exact⟨jf h1,jf h1⟩
 · rw[W.sz];unfold D_;simp
 · rw[W.sz];exact S.sz
 · rw[G0]
   have hl: ∀l:List Nat,(toS l).length=l.length:=λl=>by rw[<-cQ,gA]
   intro q hq'
   simp only[aB,ai,or_false] at hq'
   have key: ∀n,jI n->(toS (cl (wordOf n)++[92])).length<=1000:=λn h=>by
    rw[hl,cF,cQ]
    have:=h.len
    simp;exact O9 this
   rcases hq' with rfl|rfl|rfl|rfl|rfl|rfl
   · exact key _ v0
   · exact key _ v1
   · exact key _ v2
   · exact key _ v3
   · exact key _ v4
   · exact key _ v5
 · rw[G0]
   show[numberOf nI _ 0,numberOf nI _ 0,numberOf nI _ 0,numberOf nI _ 0,numberOf nI _ 0,numberOf nI _ 0]=_
   simp only[JR _ v0,JR _ v1,JR _ v2,JR _ v3,JR _ v4,JR _ v5]
 · intro j
   by_cases hj:j<6
   · have:=hn j hj
     exact intBits_le_iff.mpr (Tr this.1 this.2)
   · have:[n0,n1,n2,n3,n4,n5].getD j 0=0:=by
      rw[bM,List.getElem?_eq_none (by simpa using Nat.le_of_not_lt hj)];rfl
     rw[this];decide
theorem Gn:AG nI:=λs _=>by
 refine bk λG hG=>?_
 obtain⟨c0,c1,c2,c3,c4,c5,hc⟩:=Ez (qH s)
 refine hG ?_;clear hG G
 have jK:dS (cellsOf s)∈vO 5:=by
  have e:pick [c0,c1,c2,c3,c4,c5] (some 1) none none=[c1,c2,c3,c4,c5]:=by kernel_rfl
  rw[hc]
  unfold dS
  rw[e]
  exact(Gi [c1,c2,c3,c4,c5]).1
 have sj: ∀c:Int,7<=7+(c.fdiv 60).fmod 48/\ 7+(c.fdiv 60).fmod 48<=54:=λc=>by
  have:=iT (c.fdiv 60) (show(0:Int)<48 by decide)
  exact Kh this.1 this.2
 have NB:numsOf (cellsOf s)=[7+(c0.fdiv 60).fmod 48,7+(c1.fdiv 60).fmod 48,7+(c2.fdiv 60).fmod 48,7+(c3.fdiv 60).fmod 48,7+(c4.fdiv 60).fmod 48,7+(c5.fdiv 60).fmod 48]:=by rw[hc];rfl
 generalize N7:7+(c0.fdiv 60).fmod 48=n0 at*
 generalize BV:7+(c1.fdiv 60).fmod 48=n1 at*
 generalize K9:7+(c2.fdiv 60).fmod 48=n2 at*
 generalize hn3:7+(c3.fdiv 60).fmod 48=n3 at*
 generalize zO:7+(c4.fdiv 60).fmod 48=n4 at*
 generalize hn5:7+(c5.fdiv 60).fmod 48=n5 at*
 have hn: ∀j,j<6->7<=[n0,n1,n2,n3,n4,n5].getD j 0/\ [n0,n1,n2,n3,n4,n5].getD j 0<=54:=nJ (by have:=sj c5;rw[hn5] at this;exact this) (nJ (by have:=sj c4;rw[zO] at this;exact this) (nJ (by have:=sj c3;rw[hn3] at this;exact this) (nJ (by have:=sj c2;rw[K9] at this;exact this) (nJ (by have:=sj c1;rw[BV] at this;exact this) (nJ (by have:=sj c0;rw[N7] at this;exact this) JY)))))
 have S:=zf jK
 have W:=Es jK
 have h0:=hn 0 (by decide)
 have e0:[n0,n1,n2,n3,n4,n5].getD 0 0=n0:=rfl
 rw[e0] at h0
 obtain⟨a1,D1⟩:=dfx (total:=(cellsOf s).sum) (p:=n0-30) jK hn (qg (cellsOf s).sum) (by lia)
 obtain⟨a2,D2⟩:=dfx (total:=(cellsOf s).sum) (p:=0) jK hn (qg (cellsOf s).sum) (by decide)
 refine⟨cellsOf s,[n0,n1,n2,n3,n4,n5],a_ (dS (cellsOf s)),dS (cellsOf s),rowsOf (cellsOf s) (a_ (dS (cellsOf s))),fz (rowsOf (cellsOf s) (a_ (dS (cellsOf s)))) ([n0,n1,n2,n3,n4,n5].map wordOf) ((cellsOf s).sum.fmod 3),
  wm (cK (dS (cellsOf s))),textOf (dS (cellsOf s)) ([n0,n1,n2,n3,n4,n5].map wordOf),toS (cK (dS (cellsOf s))),a1,a2,?_⟩
 refine⟨⟨rfl,rfl,NB.symm,rfl,rfl,S.lt,S.len⟩,?_,cfx jK hn,?_,?_,S.ov⟩
 · have:=bfx jK (c0:=c0) (c1:=c1) (c2:=c2) (c3:=c3) (c4:=c4) (c5:=c5) (total:=(cellsOf s).sum) (nums:=[n0,n1,n2,n3,n4,n5]) rfl hn
   rw[<-hc] at this
   exact this
 · rw[W.sz];exact D1
 · rw[W.sz];exact D2
end Mine
end
section
open PySem PySem.W PySem.W.X PyProof.Rows PySem.Challenge
set_option maxRecDepth 100000
namespace Mine
noncomputable def EC:Dy:=⟨28,35,42,49,63,70,77,84,101,108,115,122,136,160,167,172,177,182,189,196,203,210,215,220,151⟩
noncomputable def NC:Nat->Addr
 |2=>27|3=>34|4=>41|7=>48|11=>76|12=>83|67=>159|68=>166|70=>171|71=>176|72=>181|73=>188|74=>195|75=>202|76=>209|77=>214|78=>219
 |101=>100|102=>107|103=>114|104=>121|_=>135
noncomputable def vW:jL:=⟨⟨62,58,posOf (fy 9 1),"_int2digits.<locals>.inner"⟩,⟨69,65,posOf (fy 10 0),"_digits2int.<locals>.inner"⟩⟩
theorem ED{Kf:Params->Frag}{as:List Addr}{e: ∀P,as=(Kf P).map (·.1)}{w:World}{ah:Shared}{mg mb:Str->Option Value}{p:Program}{loose:List Str}{Zw:ExcName->Option Value}{prog:Program}{fa l:Addr}{vs:List Value}{s:List Int}{d:WData}
 (Y:(kmHook Kf as e [65,58]).says w ah.heap) (T:PyProof.Rows.Top p loose Zw mg mb ah.heap) (LK:Nr (Kf w.params) EC 146 NC vW Gg) (fx:jm (Kf w.params) 79 225 224)
 (hh:KTD.hashesOf (λb=>(Kf w.params).lookup b) EC.JP=Gg.map λp=>(PySem.strKind prog w).hash p.1) (k58:(Kf w.params).lookup 58=none) (k65:(Kf w.params).lookup 65=none)
 (Ou:mg (dI (bW 79))=some (.ref fa)) (hg:ah.gens= #[]) (hs:s.length<=63) (hL:ah.heap.IsList l vs.toArray) (W:Well w.params ah.heap (.ref l) d) {xs:List WData} (hd:d= .list xs) (hI:IntsAre vs s):
 wpAny (model prog w) callerA (PySem.call (.ref fa) [.ref l]) (λv s'=>v= .bool true/\ OldK ah.heap s'.heap/\ s'.os=ah.os/\ AllBare s'.gens) (λ_ _=>False) ah:=by
 have KX:=km_in_of Y
 have KT:=km_tabs_of Y
 obtain⟨bm,ob,b1,b2,b3,b4,b5,b6⟩:=T.bmain
 have Zx:bm≠mainGlobals:=λe=>by
  obtain⟨_,_,_,g1,g2,_⟩:=T.g
  rw[e,g1] at b3;cases b3;rw[b6] at g2;cases g2
 have hT: ∀b∈vW.Ps,ah.heap.get? b=some (tabObj #[]):=by
  intro b hb
  rcases aB.mp hb with rfl|hb
  · exact KT 58 (by decide)
  · rw[ay.mp hb];exact KT 65 (by decide)
 have hK: ∀b∈vW.Ps,(Kf w.params).lookup b=none:=by
  intro b hb
  rcases aB.mp hb with rfl|hb
  · exact k58
  · rw[ay.mp hb];exact k65
 have iO: ∀b∈vW.Ps,bm≠b:=λb hb e=>by
  rw[e,hT b hb] at b3;cases b3;cases b4
 have hfa:fa=225:=by
  have h1:mg (dI (bW 79))=some (.ref 225):=mg_of KX T.g fx.glob
  rw[h1] at Ou;cases Ou;rfl
 subst hfa
 have X:=Ew (prog:=prog) (w:=w) (mg:=mg) (mb:=mb) (bm:=bm) LK hh T.builtins b1 b2 Zx (iO _ (.head _)) (iO _ (.tail _ (.head _)))
 exact Gm X fx Gn hs ⟨KX,T.g,T.b,T.nolimit,⟨ob,b3,b4,b5,b6⟩⟩ hT hK (by decide) (by decide) (by decide) hg (BQ W hd hL) hI
end Mine
end
section
open PySem PySem.W PySem.W.X PyProof.Rows PySem.Challenge
set_option Elab.async true
theorem Mine.hn.tw8606620032400623740:True:=⟨⟩
theorem Mine.hn.tw11970456148381786995:True:=⟨⟩
theorem Mine.hn.tw4016040310983881449:True:=⟨⟩
theorem Mine.hn.tw8370500980843987275:True:=⟨⟩
theorem Mine.hn.tw7328911835221818590:True:=⟨⟩
theorem Mine.hn.tw12746234040114316945:True:=⟨⟩
theorem Mine.hn.tw15425755763719528564:True:=⟨⟩
theorem Mine.hn.tw5557264850730841267:True:=⟨⟩
theorem Mine.hn.tw15183183667692329573:True:=⟨⟩
theorem Mine.hn.tw14423515571211920761:True:=⟨⟩
theorem Mine.hn.tw1951422479333385157:True:=⟨⟩
theorem Mine.hn.tw9703477941285397164:True:=⟨⟩
theorem Mine.hn.tw10065520313689650707:True:=⟨⟩
theorem Mine.hn.tw10122891624732014249:True:=⟨⟩
theorem Mine.hn.tw10183613986391145301:True:=⟨⟩
theorem Mine.hn.tw1033923576130587274:True:=⟨⟩
theorem Mine.hn.tw10375488941113635438:True:=⟨⟩
theorem Mine.hn.tw10444797967677241807:True:=⟨⟩
theorem Mine.hn.tw10503619052314204996:True:=⟨⟩
theorem Mine.hn.tw10579133923895085011:True:=⟨⟩
theorem Mine.hn.tw10691999290991757420:True:=⟨⟩
theorem Mine.hn.tw10733429930277395115:True:=⟨⟩
theorem Mine.hn.tw10790345730232991715:True:=⟨⟩
theorem Mine.hn.tw10970996241809235133:True:=⟨⟩
theorem Mine.hn.tw10988483484240474824:True:=⟨⟩
theorem Mine.hn.tw11047527809128672971:True:=⟨⟩
theorem Mine.hn.tw11291524882178292076:True:=⟨⟩
theorem Mine.hn.tw11299340293633305904:True:=⟨⟩
theorem Mine.hn.tw11671947778459928128:True:=⟨⟩
theorem Mine.hn.tw11779119421061262150:True:=⟨⟩
theorem Mine.hn.tw12377005510702151827:True:=⟨⟩
theorem Mine.hn.tw1244778468798703499:True:=⟨⟩
theorem Mine.hn.tw12528687780712931209:True:=⟨⟩
theorem Mine.hn.tw12552120248165849243:True:=⟨⟩
theorem Mine.hn.tw12585332521205633088:True:=⟨⟩
theorem Mine.hn.tw12628850115430390655:True:=⟨⟩
theorem Mine.hn.tw12641914386399192225:True:=⟨⟩
theorem Mine.hn.tw12678996607069284485:True:=⟨⟩
theorem Mine.hn.tw12770882040951973921:True:=⟨⟩
theorem Mine.hn.tw12773921158792096132:True:=⟨⟩
theorem Mine.hn.tw12787680154280724463:True:=⟨⟩
theorem Mine.hn.tw12916164635737199483:True:=⟨⟩
theorem Mine.hn.tw12986890633172706654:True:=⟨⟩
theorem Mine.hn.tw13147797398891821851:True:=⟨⟩
theorem Mine.hn.tw13148180799257980323:True:=⟨⟩
theorem Mine.hn.tw13161425337097927773:True:=⟨⟩
theorem Mine.hn.tw13228548075995710983:True:=⟨⟩
theorem Mine.hn.tw13253943425386978151:True:=⟨⟩
theorem Mine.hn.tw13413094732881092597:True:=⟨⟩
theorem Mine.hn.tw13652594802625819300:True:=⟨⟩
theorem Mine.hn.tw13670181084199937515:True:=⟨⟩
theorem Mine.hn.tw13713074276736616247:True:=⟨⟩
theorem Mine.hn.tw13735753019959203398:True:=⟨⟩
theorem Mine.hn.tw13799819983257593715:True:=⟨⟩
theorem Mine.hn.tw13924992047638968405:True:=⟨⟩
theorem Mine.hn.tw13935066648130900374:True:=⟨⟩
theorem Mine.hn.tw14049838957071500050:True:=⟨⟩
theorem Mine.hn.tw1414727479155851693:True:=⟨⟩
theorem Mine.hn.tw14167025634972518462:True:=⟨⟩
theorem Mine.hn.tw14364375670988998080:True:=⟨⟩
theorem Mine.hn.tw14609534594851283183:True:=⟨⟩
theorem Mine.hn.tw14614243037826468322:True:=⟨⟩
theorem Mine.hn.tw14650446885840382136:True:=⟨⟩
theorem Mine.hn.tw14790692823987489980:True:=⟨⟩
theorem Mine.hn.tw15000424724888920649:True:=⟨⟩
theorem Mine.hn.tw15287544063122534220:True:=⟨⟩
theorem Mine.hn.tw1534738413364003810:True:=⟨⟩
theorem Mine.hn.tw15513437531640771915:True:=⟨⟩
theorem Mine.hn.tw15550691320761798392:True:=⟨⟩
theorem Mine.hn.tw1575419422967776497:True:=⟨⟩
theorem Mine.hn.tw15833783710820863779:True:=⟨⟩
theorem Mine.hn.tw15883314963331122293:True:=⟨⟩
theorem Mine.hn.tw16107744501353190839:True:=⟨⟩
theorem Mine.hn.tw16133266578876583446:True:=⟨⟩
theorem Mine.hn.tw1621443004340157417:True:=⟨⟩
theorem Mine.hn.tw16381764223415835461:True:=⟨⟩
theorem Mine.hn.tw16408529727365789458:True:=⟨⟩
theorem Mine.hn.tw16610947071494125254:True:=⟨⟩
theorem Mine.hn.tw1666324306899019876:True:=⟨⟩
theorem Mine.hn.tw16835155620840187020:True:=⟨⟩
theorem Mine.hn.tw1703877887061839709:True:=⟨⟩
theorem Mine.hn.tw17094192072530720689:True:=⟨⟩
theorem Mine.hn.tw17164723825273918416:True:=⟨⟩
theorem Mine.hn.tw17237533345624610828:True:=⟨⟩
theorem Mine.hn.tw17341254097003575067:True:=⟨⟩
theorem Mine.hn.tw17516748693747270970:True:=⟨⟩
theorem Mine.hn.tw18111986118210058136:True:=⟨⟩
theorem Mine.hn.tw18297532160526899522:True:=⟨⟩
theorem Mine.hn.tw18343494647205751274:True:=⟨⟩
theorem Mine.hn.tw18434986112073575741:True:=⟨⟩
theorem Mine.hn.tw1950939450375991741:True:=⟨⟩
theorem Mine.hn.tw2011903508690881402:True:=⟨⟩
theorem Mine.hn.tw2079321792099924998:True:=⟨⟩
theorem Mine.hn.tw2122713659077101309:True:=⟨⟩
theorem Mine.hn.tw2183565330039201977:True:=⟨⟩
theorem Mine.hn.tw2218593046194986097:True:=⟨⟩
theorem Mine.hn.tw2263798793689018323:True:=⟨⟩
theorem Mine.hn.tw2285918965494994724:True:=⟨⟩
theorem Mine.hn.tw2339279576163590535:True:=⟨⟩
theorem Mine.hn.tw2385052534743498932:True:=⟨⟩
theorem Mine.hn.tw2390352250293929411:True:=⟨⟩
theorem Mine.hn.tw2454548456511981841:True:=⟨⟩
theorem Mine.hn.tw2467621395651095204:True:=⟨⟩
theorem Mine.hn.tw2528832025887709705:True:=⟨⟩
theorem Mine.hn.tw2574661568634748318:True:=⟨⟩
theorem Mine.hn.tw2639213304994650393:True:=⟨⟩
theorem Mine.hn.tw2661769519402828799:True:=⟨⟩
theorem Mine.hn.tw2718081906228367183:True:=⟨⟩
theorem Mine.hn.tw2999499668101173330:True:=⟨⟩
theorem Mine.hn.tw303862020552826108:True:=⟨⟩
theorem Mine.hn.tw3058115632514112512:True:=⟨⟩
theorem Mine.hn.tw3087861446680574972:True:=⟨⟩
theorem Mine.hn.tw313337498550853236:True:=⟨⟩
theorem Mine.hn.tw33100669182327894:True:=⟨⟩
theorem Mine.hn.tw3350661461273704866:True:=⟨⟩
theorem Mine.hn.tw3461848950073905745:True:=⟨⟩
theorem Mine.hn.tw3475508329343356406:True:=⟨⟩
theorem Mine.hn.tw3588867722903876611:True:=⟨⟩
theorem Mine.hn.tw3685950241595247040:True:=⟨⟩
theorem Mine.hn.tw3717463235146529608:True:=⟨⟩
theorem Mine.hn.tw3718091253575246275:True:=⟨⟩
theorem Mine.hn.tw3912588462826234033:True:=⟨⟩
theorem Mine.hn.tw393113535220153288:True:=⟨⟩
theorem Mine.hn.tw4170448179502122999:True:=⟨⟩
theorem Mine.hn.tw4190810748649202282:True:=⟨⟩
theorem Mine.hn.tw4218204973238079590:True:=⟨⟩
theorem Mine.hn.tw4275410096957793877:True:=⟨⟩
theorem Mine.hn.tw4446940422467592853:True:=⟨⟩
theorem Mine.hn.tw4502425887849182068:True:=⟨⟩
theorem Mine.hn.tw4606601087911680460:True:=⟨⟩
theorem Mine.hn.tw463711561175765939:True:=⟨⟩
theorem Mine.hn.tw4761353657355464914:True:=⟨⟩
theorem Mine.hn.tw4763973277697300335:True:=⟨⟩
theorem Mine.hn.tw4776595912973293381:True:=⟨⟩
theorem Mine.hn.tw5006200145336610171:True:=⟨⟩
theorem Mine.hn.tw5012497554491396103:True:=⟨⟩
theorem Mine.hn.tw518433873862964081:True:=⟨⟩
theorem Mine.hn.tw5312353293178500826:True:=⟨⟩
theorem Mine.hn.tw5340557023603883540:True:=⟨⟩
theorem Mine.hn.tw5354138311098696324:True:=⟨⟩
theorem Mine.hn.tw5369665853861399768:True:=⟨⟩
theorem Mine.hn.tw5490436972752264882:True:=⟨⟩
theorem Mine.hn.tw5632279739942296441:True:=⟨⟩
theorem Mine.hn.tw5700165602144621415:True:=⟨⟩
theorem Mine.hn.tw5795820695110411813:True:=⟨⟩
theorem Mine.hn.tw5950952302410092409:True:=⟨⟩
theorem Mine.hn.tw5951675240354912478:True:=⟨⟩
theorem Mine.hn.tw6038596419447425014:True:=⟨⟩
theorem Mine.hn.tw6134484691510813882:True:=⟨⟩
theorem Mine.hn.tw6284511567024558337:True:=⟨⟩
theorem Mine.hn.tw6455704449722742785:True:=⟨⟩
theorem Mine.hn.tw6499755426030928783:True:=⟨⟩
theorem Mine.hn.tw6599283246488206944:True:=⟨⟩
theorem Mine.hn.tw6655853489441812984:True:=⟨⟩
theorem Mine.hn.tw6700217839758485915:True:=⟨⟩
theorem Mine.hn.tw6723290514713868495:True:=⟨⟩
theorem Mine.hn.tw6826970166414396642:True:=⟨⟩
theorem Mine.hn.tw6967693531638000818:True:=⟨⟩
theorem Mine.hn.tw6971419494979700732:True:=⟨⟩
theorem Mine.hn.tw7394487978736561853:True:=⟨⟩
theorem Mine.hn.tw7400942618948115387:True:=⟨⟩
theorem Mine.hn.tw743763850042800403:True:=⟨⟩
theorem Mine.hn.tw7467694704369764656:True:=⟨⟩
theorem Mine.hn.tw7469940813270752075:True:=⟨⟩
theorem Mine.hn.tw7501305653648716890:True:=⟨⟩
theorem Mine.hn.tw7502872197482273539:True:=⟨⟩
theorem Mine.hn.tw7531319482289558349:True:=⟨⟩
theorem Mine.hn.tw7575748758183715083:True:=⟨⟩
theorem Mine.hn.tw7654458394808200792:True:=⟨⟩
theorem Mine.hn.tw7668177314793428411:True:=⟨⟩
theorem Mine.hn.tw7791646463164378001:True:=⟨⟩
theorem Mine.hn.tw7840277354288912152:True:=⟨⟩
theorem Mine.hn.tw789087509709324089:True:=⟨⟩
theorem Mine.hn.tw7931376244688347073:True:=⟨⟩
theorem Mine.hn.tw7999806578538178693:True:=⟨⟩
theorem Mine.hn.tw8241384834168031874:True:=⟨⟩
theorem Mine.hn.tw8247970068590592916:True:=⟨⟩
theorem Mine.hn.tw8330110335956557670:True:=⟨⟩
theorem Mine.hn.tw8360607263418994029:True:=⟨⟩
theorem Mine.hn.tw8394918253416648442:True:=⟨⟩
theorem Mine.hn.tw8402822888280697712:True:=⟨⟩
theorem Mine.hn.tw8629820205754452449:True:=⟨⟩
theorem Mine.hn.tw871707226209303764:True:=⟨⟩
theorem Mine.hn.tw8884779577658835006:True:=⟨⟩
theorem Mine.hn.tw9061854860989556768:True:=⟨⟩
theorem Mine.hn.tw9089804652856655442:True:=⟨⟩
theorem Mine.hn.tw9171621673409858075:True:=⟨⟩
theorem Mine.hn.tw9211860248740959377:True:=⟨⟩
theorem Mine.hn.tw934435071686940391:True:=⟨⟩
theorem Mine.hn.tw9394073607153062532:True:=⟨⟩
theorem Mine.hn.tw9421803934570101951:True:=⟨⟩
theorem Mine.hn.tw9606414558155134962:True:=⟨⟩
theorem Mine.hn.tw9685456782757063988:True:=⟨⟩
theorem Mine.hn.tw9688967750758827358:True:=⟨⟩
theorem Mine.hn.tw9726944761904402678:True:=⟨⟩
theorem Mine.hn.tw9783786425200178225:True:=⟨⟩
theorem Mine.hn.tw99092414134766069:True:=⟨⟩
theorem Mine.hn.tw4268671722933799864:True:=⟨⟩
theorem Mine.hn.tw1258766312594143736:True:=⟨⟩
theorem Mine.hn.tw16584183665419772991:True:=⟨⟩
theorem Mine.hn.tw3568867469395437538:True:=⟨⟩
theorem Mine.hn.tw9590929550567713805:True:=⟨⟩
theorem Mine.hn.tw4436772785526542491:True:=⟨⟩
theorem Mine.hn.tw809088640269982695:True:=⟨⟩
theorem Mine.hn.tw6992491236539193447:True:=⟨⟩
theorem Mine.hn.tw17192315549239622944:True:=⟨⟩
theorem Mine.hn.tw4694076316775780574:True:=⟨⟩
theorem Mine.hn.tw8752548315723613306:True:=⟨⟩
namespace Mine
set_option maxRecDepth 100000 in
set_option maxHeartbeats 0 in
theorem hn:PySem.Challenge.rw_uc0053_01.Holds:=by
 w_on;o_law;k_head;(case hw=>w_witness2)
 intro w bD ah mg mb G Y fa o pm cd doc dV kV ho hd tU hD Ou hg args vals as Zy Zz hrd wj XT
 refine Ground.open G ?_
 intro T B D TE TW
 wrow_args Zy Zz hrd wj XT
 rename_i hL _ ND _ hI _ hc _
 refine aT (ED Y T {
  it:=⟨by kernel_rfl,by kernel_rfl,by kernel_rfl⟩
  strip:=⟨by kernel_rfl,by kernel_rfl,by kernel_rfl⟩
  ya:=⟨by kernel_rfl,by kernel_rfl,by kernel_rfl⟩
  d2:=⟨by kernel_rfl,by kernel_rfl,by kernel_rfl⟩
  Bq:=⟨by kernel_rfl,by kernel_rfl,by kernel_rfl⟩
  Br:=⟨by kernel_rfl,by kernel_rfl,by kernel_rfl⟩
  Hp:=⟨by kernel_rfl,by kernel_rfl,by kernel_rfl⟩
  k_:=⟨by kernel_rfl,by kernel_rfl,by kernel_rfl⟩
  mz:=⟨by kernel_rfl,by kernel_rfl,by kernel_rfl⟩
  lK:=⟨by kernel_rfl,by kernel_rfl,by kernel_rfl⟩
  words:=⟨by kernel_rfl,by kernel_rfl,by kernel_rfl⟩
  text:=⟨by kernel_rfl,by kernel_rfl,by kernel_rfl⟩
  lead:=⟨by kernel_rfl,by kernel_rfl,by kernel_rfl⟩
  cols:=⟨by kernel_rfl,by kernel_rfl,by kernel_rfl⟩
  number:=⟨by kernel_rfl,by kernel_rfl,by kernel_rfl⟩
  nF:=⟨by kernel_rfl,by kernel_rfl,by kernel_rfl⟩
  sizes:=⟨by kernel_rfl,by kernel_rfl,by kernel_rfl⟩
  ja:=⟨by kernel_rfl,by kernel_rfl,by kernel_rfl⟩
  weigh:=⟨by kernel_rfl,by kernel_rfl,by kernel_rfl⟩
  cls:={
   dict:=by kernel_rfl
   ga:=by kernel_rfl
   Lr:=by kernel_rfl
   keys:=by
    intro x hx
    simp only[gj,aB,ai,or_false] at hx
    rcases hx with rfl|rfl|rfl|rfl|rfl<;>kernel_rfl
   makes:=by kernel_rfl
   set:=by kernel_rfl
   over:=by kernel_rfl
   tak:=by
    intro x hx
    simp only[gj,aB,ai,or_false] at hx
    rcases hx with rfl|rfl|rfl|rfl|rfl<;>kernel_rfl
   init:=by kernel_rfl
   fn:=by kernel_rfl
   reads:=by kernel_rfl
   nS:=⟨_,by rfl⟩
   nT:=⟨_,by rfl⟩
   glob:=by kernel_rfl
   keep:=by kernel_rfl}
  init:=⟨by kernel_rfl,by kernel_rfl⟩
  long:=⟨⟨by kernel_rfl,by kernel_rfl⟩,by kernel_rfl,by kernel_rfl⟩
  level:=⟨⟨by kernel_rfl,by kernel_rfl⟩,by kernel_rfl,by kernel_rfl⟩
  equal:=⟨⟨by kernel_rfl,by kernel_rfl⟩,by kernel_rfl,by kernel_rfl⟩
  less:=⟨⟨by kernel_rfl,by kernel_rfl⟩,by kernel_rfl,by kernel_rfl⟩
  h1:=by kernel_rfl
  h2:=by kernel_rfl
  ne:=by decide
  m1:=by decide
  m2:=by decide
  q1:=rfl
  q2:=rfl
  p1:=rfl
  p2:=rfl
  Dz:=⟨_,by rfl⟩
  yI:=⟨_,by rfl⟩
  M1:=⟨_,by rfl⟩
  By:=by kernel_rfl
  tab:=by kernel_rfl
  nodup:=by decide+kernel
  vls:=by
   have e:(Gg.all λp=>match p.2 with| .int _=>true|_=>false)=true:=by decide+kernel
   intro p hp
   have:=dM.mp e p hp
   split at this
   · rename_i i h;exact⟨i,h⟩
   · cases this
  blt:=by
   intro x hx
   simp only[tg,aB,ai,or_false] at hx
   rcases hx with rfl|rfl|rfl|rfl|rfl|rfl|rfl|rfl|rfl<;>kernel_rfl} ⟨by kernel_rfl,by kernel_rfl,by kernel_rfl⟩ (by kernel_rfl) (by kernel_rfl) (by kernel_rfl) Ou hg (by omega) hL ND rfl hI) (λv s' h=>?_) λe s' h=>h.elim
 obtain⟨rfl,h2,h3,h4⟩:=h
 refine⟨.inl ⟨_,_,_,rfl,raisesW_false ?_,.bool true,?_,λ_=>⟨List.nodup_nil,λ_ h=>nomatch h⟩⟩,h2,h3,h4⟩
 · wrow_none_raised
 · wrow_post
end Mine
set_option Elab.async false
end
theorem PySem.Challenge.cw_uc0053_01_holds : PySem.Challenge.rw_uc0053_01.Holds :=
  Mine.hn
