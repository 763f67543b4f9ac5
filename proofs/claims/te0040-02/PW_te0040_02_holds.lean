import PyProof.Rows.All
import Wide.All
import OpenK.AllK
import Wide.FinOn
import PyProof.GenRules
import KE.KRevSl
import Lean
import PySem.Challenge.RW_te0040_02
set_option Elab.async false
set_option genInjectivity false
set_option genSizeOfSpec false
set_option genSizeOf false
set_option bootstrap.genMatcherCode false
set_option tactic.hygienic false
set_option backward.match.sparseCases false
set_option linter.all false
set_option maxRecDepth 100000
set_option maxHeartbeats 0
set_option genCtorIdx false
namespace Mine
noncomputable section
open PySem PySem.W PySem.Calls PyProof.Rows
open Nat (zero_le ne_of_lt sub_self mod_lt succ_le_succ sub_le min_eq_left succ_pos add_le_add mul_le_mul_left le_of_lt blt_eq add_le_add_left le_of_not_lt pos_of_ne_zero le_add_left not_lt_zero min_le_left le_zero mul_succ lt_irrefl le_of_lt_succ succ_ne_zero succ_ne_self succ_lt_succ le_total le_succ_of_le lt_or_eq_of_le)
open List (length all_cons size_toArray findIdx?_cons getElem?_nil drop_zero all_append mem_flatMap contains_iff_mem map_cons take_length range' cons_append length_range getElem?_set_self ext_getElem? drop_eq_nil_of_le take_left nil_append map_nil all_map getElem?_drop any_cons reverse_concat getElem?_range drop_left mem_append_left length_nil foldl_cons map_id take_of_length_le length_reverse dropLast_concat eq_nil_or_concat drop_length concat_eq_append take filterMap drop_take find?_cons mem_toArray mem_append_right toArray reverse_cons flatMap_cons mem_zipIdx_iff_getElem? head_eq_of_cons_eq length_pos_iff getElem?_take_of_lt)
open Array (length_toList getElem?_toList)
open Int (ofNat_le natCast_nonneg ofNat_lt ofNat)
open Bool (eq_false_iff noConfusion)
open Option (bind_some isNone_iff_eq_none map_eq_none_iff)
def aa:=@List.length_append
def ab:=@Bool.and_eq_true_iff
def ag:=@Nat.le_trans
def ah:=@Nat.le_refl
def ai:=@wpAny_bind
def aj:=@List.length_map
def ak:=@List.all_eq_true
def ao:=@List.getElem?_eq_getElem
def aq:=@Nat.sub_add_cancel
def au:=@List.getElem?_eq_some_iff
def aw:=@List.append_assoc
def ax:=@of_decide_eq_true
def ay:=@List.length_cons
def az:=@congrArg
def aA:=@Bool.false_ne_true
def aB:=@List.mem_singleton
def aC:=@beq_iff_eq
def aE:=@Nat.le_succ
def aF:=@List.append_nil
def aH:=@List.getElem?_map
def aI:=@List.getElem?_append_right
def aJ:=@List.getElem?_append_left
def aK:=@Nat.le_add_right
def aL:=@wpAny_pure
def aM:=@Option.bind_eq_some_iff
def aN:=@beq_eq_false_iff_ne
def aO:=@List.map_append
def aP:=@Heap.get?_push_of_some
def aQ:=@Option.map_eq_some_iff
def aR:=@List.mem_of_getElem?
def aS:=@Nat.lt_of_lt_of_le
def aT:=@List.getElem?_eq_none
def aU:=@List.mem_cons
def aV:=@Nat.lt_or_ge
def aW:=@Bool.and_eq_true
def aX:=@List.getLast?_concat
def aY:=@List.lookup_cons
def aZ:=@List.cons_ne_nil
def ba:=@Nat.add_sub_cancel_left
def bg:=@List.mem_append
def bh:=@List.map_map
def bj:=@List.isEmpty_iff
def bk:=@beq_self_eq_true
def bo:=@decide_eq_true
def bp:=@Heap.get?_push_size
def bq:=@List.getElem?_set_ne
def br:=@List.drop_drop
def bu:=@wpAny_mono
def bw:=@List.length_drop
def bx:=@decide_eq_false
def bz:=@List.map_inj_left
def bA:=@List.forall_mem_cons
def bB:=@Option.some.inj
def bC:=@Nat.ne_of_gt
def bD:=@List.getElem?_toArray
def bE:=@List.length_take
def bF:=@Nat.lt_succ_self
def bG:=@List.map_congr_left
def bH:=@List.length_set
def bI:=@List.length_eq_zero_iff
def bJ:=@List.mem_range
def bK:=@wpAny_holding
def bL:=@List.mem_map
def bM:=@Bool.not_eq_true'
def bN:=@wpAny_loadPart'
def bO:=@Nat.min_le_right
@[elab_as_elim] theorem eL{α:Sort u}{a b:α}{P:α->Prop}(h:a=b)(k:P b):P a:=h▸k
@[elab_as_elim] theorem eR{α:Sort u}{a b:α}{P:α->Prop}(h:b=a)(k:P b):P a:=h▸k
theorem Cm{α:Type _}{a:α}{G:Prop}(h:some a=none):G:=(Option.some_ne_none a h).elim
theorem iS{α:Type _}{a:α}{G:Prop}(h:a∈[]):G:=(List.not_mem_nil h).elim
theorem KZ{α:Type _}{a:α}{l:List α}{G:Prop}(h:[]=a::l):G:=(aZ _ _ h.symm).elim
theorem YJ{α:Type _}{a:α}{l:List α}{G:Prop}(h:a::l=[]):G:=(aZ _ _ h).elim
theorem jD{G:Prop}(h:false=true):G:=(aA h).elim
theorem SI{G:Prop}(h:true=false):G:=(aA h.symm).elim
theorem w8{n:Nat}{G:Prop}(h:0=n+1):G:=(succ_ne_zero n h.symm).elim
theorem E9{n:Nat}{G:Prop}(h:n+1=0):G:=(succ_ne_zero n h).elim
theorem a7{n:Nat}{G:Prop}(h:n<0):G:=(not_lt_zero n h).elim
inductive Lx where
 |v (i:Nat)
 |k (n:Nat)
 |a (x y:Lx)
 |m (n:Nat) (x:Lx)
 |r (x:Lx) (n:Nat)
noncomputable def Zx(c:List Nat)(i:Nat):Nat:=List.rec (fun _=>0) (fun x _ a i=>Nat.rec x (fun j _=>a j) i) c i
def Lx.ev(c:List Nat)(x:Lx):Nat:=Lx.rec (fun i=>Zx c i) (fun n=>n) (fun _ _ p q=>p+q) (fun n _ p=>n*p) (fun _ n p=>p*n) x
noncomputable def gX:List Nat->List Nat->List Nat
 |[],q=>q
 |x::p,[]=>x::p
 |x::p,y::q=>(x+y)::gX p q
noncomputable def tv(n:Nat)(p:List Nat):List Nat:=p.map (n * ·)
noncomputable def Br:Nat->List Nat
 |0=>[0,1]
 |i+1=>match Br i with
  |[]=>[]
  |x::p=>x::0::p
def Lx.po(x:Lx):List Nat:=Lx.rec (fun i=>Br i) (fun n=>[n]) (fun _ _ p q=>gX p q) (fun n _ p=>tv n p) (fun _ n p=>tv n p) x
noncomputable def Ip:List Nat->List Nat->Bool
 |[],_=>true
 |x::p,[]=>Nat.beq x 0&&Ip p []
 |x::p,y::q=>Nat.ble x y&&Ip p q
noncomputable def eS:List Nat->List Nat->Nat
 |[],_=>0
 |x::p,[]=>x*0+eS p []
 |x::p,y::c=>x*y+eS p c
theorem eQ:∀(p q c:List Nat),eS (gX p q) c=eS p c+eS q c:=by
 intro p;induction p with
 |nil=>intro q c;exact(Nat.zero_add _).symm
 |cons x p a=>
  intro q c;cases q with
  |nil=>cases c<;>rfl
  |cons y q=>cases c with
   |nil=>show(x+y)*0+eS (gX p q) []=_;rw [a];show _=x*0+eS p []+(y*0+eS q []);lia
   |cons z c=>show(x+y)*z+eS (gX p q) c=_;rw [a,Nat.add_mul];show _=x*z+eS p c+(y*z+eS q c);lia
theorem kL(n:Nat):∀(p c:List Nat),eS (tv n p) c=n*eS p c:=by
 intro p;induction p with
 |nil=>intro c;rfl
 |cons x p a=>
  intro c;cases c with
  |nil=>show(n*x)*0+eS (tv n p) []=n*(x*0+eS p []);rw [a,Nat.mul_add,Nat.mul_assoc]
  |cons z c=>show(n*x)*z+eS (tv n p) c=n*(x*z+eS p c);rw [a,Nat.mul_add,Nat.mul_assoc]
theorem za:∀p:List Nat,eS p []=0:=by
 intro p;induction p with
 |nil=>rfl
 |cons x p a=>show x*0+eS p []=0;rw [a];rfl
theorem KN:∀(i:Nat) (c:List Nat),(∃p,Br i=0::p)/\eS (Br i) (1::c)=Zx c i:=by
 intro i;induction i with
 |zero=>intro c;refine⟨⟨_,rfl⟩,?_⟩;cases c with
  |nil=>rfl
  |cons y c=>show 0*1+(1*y+0)=y;lia
 |succ i a=>
  intro c;obtain⟨p,e⟩:=(a c).1;have h:Br (i+1)=0::0::p:=by show(match Br i with|[]=>[]|x::p=>x::0::p)=_;rw [e]
  refine⟨⟨_,h⟩,?_⟩;rw [h];cases c with
  |nil=>show 0*1+(0*0+eS p [])=0;rw [za]
  |cons y c=>
   have:=(a c).2;rw [e] at this;show 0*1+(0*y+eS p c)=Zx c i;rw [<-this];show _=0*1+eS p c;lia
theorem Lx.fI(c:List Nat)(x:Lx):eS x.po (1::c)=x.ev c:=by
 induction x with
 |v i=>exact(KN i c).2
 |k n=>show n*1+0=n;lia
 |a x y p q=>show eS (gX x.po y.po) _=x.ev c+y.ev c;rw [eQ,p,q]
 |m n x p=>show eS (tv n x.po) _=n*x.ev c;rw [kL,p]
 |r x n p=>show eS (tv n x.po) _=x.ev c*n;rw [kL,p,Nat.mul_comm]
theorem pK:∀ {p q c:List Nat},Ip p q=true->eS p c<=eS q c:=by
 intro p;induction p with
 |nil=>intro q c _;exact zero_le _
 |cons x p d=>
  intro q c h;cases q with
  |nil=>
   obtain⟨a,b⟩:=ab.mp h;have a:=Nat.eq_of_beq_eq_true a;subst a;cases c with
   |nil=>show 0*0+eS p []<=0;rw [za];exact ah _
   |cons z c=>have:=d (c:=c) b;show 0*z+eS p c<=0;rw [Nat.zero_mul,Nat.zero_add];exact this
  |cons y q=>
   obtain⟨a,b⟩:=ab.mp h;have a:=Nat.le_of_ble_eq_true a;cases c with
   |nil=>exact add_le_add (ah 0) (d b)
   |cons z c=>exact add_le_add (Nat.mul_le_mul_right z a) (d b)
structure Lr where
 n:Nat
 q:Nat
 l:Lx
 r:Lx
def Lr.P(c:List Nat)(x:Lr):Prop:=match x.q with
 |0=>x.l.ev c<=x.r.ev c
 |1=>x.l.ev c<x.r.ev c
 |_=>x.l.ev c=x.r.ev c
def Sat(c:List Nat):List Lr->Prop
 |[]=>False
 |x::t=>match x.n with
  |0=>x.P c
  |_+1=>x.P c->Sat c t
def Lr.L(x:Lr):List Nat:=match x.q with
 |0=>x.l.po
 |1=>gX [1] x.l.po
 |2=>x.l.po
 |_=>x.r.po
def Lr.R(x:Lr):List Nat:=match x.q with
 |0=>x.r.po
 |1=>x.r.po
 |2=>x.r.po
 |_=>x.l.po
noncomputable def Xx(e:Bool)(L R:List Nat):List Lr->Bool
 |[]=>Ip (gX [1] R) L
 |x::t=>match x.n with
  |0=>match x.q with
   |0=>Ip (gX R x.L) (gX L x.R)
   |1=>Ip (gX R x.L) (gX L x.R)
   |_=>e&&(Ip (gX R x.L) (gX L x.R)&&Ip (gX L x.R) (gX R x.L))
  |n+1=>Xx (e&&Nat.ble 2 x.q) (gX L (tv (n+1) x.L)) (gX R (tv (n+1) x.R)) t
theorem Lr.le{c:List Nat}{x:Lr}(h:x.P c):eS x.L (1::c)<=eS x.R (1::c):=by
 obtain⟨n,q,l,r⟩:=x;rcases q with _|_|_|q
 .show eS l.po _<=eS r.po _;rw [Lx.fI,Lx.fI];exact h
 .show eS (gX [1] l.po) _<=eS r.po _;rw [eQ,Lx.fI,Lx.fI];show 1*1+0+_<=_;rw [Nat.add_comm];exact h
 .show eS l.po _<=eS r.po _;rw [Lx.fI,Lx.fI];exact Nat.le_of_eq h
 .show eS r.po _<=eS l.po _;rw [Lx.fI,Lx.fI];exact Nat.le_of_eq (Eq.symm h)
theorem Lr.eq{c:List Nat}{x:Lr}(h:x.P c)(a:Nat.ble 2 x.q=true):eS x.L (1::c)=eS x.R (1::c):=by
 obtain⟨n,q,l,r⟩:=x;rcases q with _|_|_|q
 .cases a
 .cases a
 .show eS l.po _=eS r.po _;rw [Lx.fI,Lx.fI];exact h
 .show eS r.po _=eS l.po _;rw [Lx.fI,Lx.fI];exact Eq.symm h
theorem OH(c:List Nat):∀(t:List Lr) (e:Bool) (L R:List Nat),Xx e L R t=true->eS L (1::c)<=eS R (1::c)->(e=true->eS L (1::c)=eS R (1::c))->Sat c t:=by
 intro t;induction t with
 |nil=>
  intro e L R h f _;have:=pK (c:=1::c) h;rw [eQ] at this;have:1*1+0+eS R (1::c)<=eS L (1::c):=this;show False;lia
 |cons x t k=>
  intro e L R h f d;obtain⟨n,q,l,r⟩:=x;rcases n with _|n
  .rcases q with _|_|q
   .have:=pK (c:=1::c) (show Ip (gX R l.po) (gX L r.po)=true from h);rw [eQ,eQ,Lx.fI,Lx.fI] at this;show l.ev c<=r.ev c;lia
   .have:=pK (c:=1::c) (show Ip (gX R (gX [1] l.po)) (gX L r.po)=true from h);rw [eQ,eQ,eQ,Lx.fI,Lx.fI] at this;have:eS R (1::c)+(1*1+0+l.ev c)<=eS L (1::c)+r.ev c:=this;show l.ev c<r.ev c;lia
   .obtain ⟨g,h⟩:=ab.mp h;obtain⟨a,b⟩:=ab.mp h;have a:=pK (c:=1::c) a;have b:=pK (c:=1::c) b;rw [eQ,eQ] at a b;have d:=d g;show l.ev c=r.ev c;rcases q with _|q
    .have a:eS R (1::c)+eS l.po (1::c)<=eS L (1::c)+eS r.po (1::c):=a;have b:eS L (1::c)+eS r.po (1::c)<=eS R (1::c)+eS l.po (1::c):=b;rw [Lx.fI,Lx.fI] at a b;lia
    .have a:eS R (1::c)+eS r.po (1::c)<=eS L (1::c)+eS l.po (1::c):=a;have b:eS L (1::c)+eS l.po (1::c)<=eS R (1::c)+eS r.po (1::c):=b;rw [Lx.fI,Lx.fI] at a b;lia
  .intro hp;refine k _ _ _ h ?_ ?_
   .rw [eQ,eQ,kL,kL];exact add_le_add f (mul_le_mul_left _ (Lr.le hp))
   .intro z;obtain⟨i,j⟩:=ab.mp z;rw [eQ,eQ,kL,kL,d i,Lr.eq hp j]
noncomputable def d3(f n:Nat):List Nat:=Nat.rec (fun _=>[]) (fun _ a n=>bif Nat.beq n 0 then[] else(n%16)::a (n/16)) f n
noncomputable def Lx.num(x:Lx):Nat:=Lx.rec (fun _=>0) (fun n=>n) (fun _ _ _ _=>0) (fun _ _ _=>0) (fun _ _ _=>0) x
noncomputable def sX(l:List Lx):Lx:=List.rec (.k 0) (fun x _ _=>x) l
def o6(l:List Nat)(p:Nat)(s:List Lx)(o:List Lr):List Lr:=List.rec (fun _ _ o=>o.reverse) (fun d _ b p s o=>
 bif Nat.beq p 1 then b 0 (.k (16*(sX s).num+d)::s.tail) o
 else bif Nat.beq p 2 then b 0 s.tail.tail (⟨d/4,d%4,sX s.tail,sX s⟩::o)
 else bif Nat.ble d 7 then b 0 (.v d::s) o
 else bif Nat.ble d 10 then b 0 (.k (d-8)::s) o
 else bif Nat.beq d 11 then b 1 s o
 else bif Nat.beq d 12 then b 0 (.a (sX s.tail) (sX s)::s.tail.tail) o
 else bif Nat.beq d 13 then b 0 (.m (sX s.tail).num (sX s)::s.tail.tail) o
 else bif Nat.beq d 14 then b 0 (.r (sX s.tail) (sX s).num::s.tail.tail) o
 else b 2 s o) l p s o
abbrev IA(n:Nat):Bool:=Xx true [] [] (o6 (d3 99 n) 0 [] [])
abbrev Nl(c:List Nat)(n:Nat):Prop:=Sat c (o6 (d3 99 n) 0 [] [])
theorem tt:true=true:=rfl
theorem nl(c:List Nat)(n:Nat)(h:IA n=true):Nl c n:=OH c _ _ _ _ h (ah _) fun _=>rfl
theorem F9(n:Nat)(h:IA n=true):Nl [] n:=nl _ n h
theorem gC{x:Nat}(n:Nat)(h:IA n=true):Nl [x] n:=nl _ n h
theorem cC{x y:Nat}(n:Nat)(h:IA n=true):Nl [x,y] n:=nl _ n h
theorem dN{x y z:Nat}(n:Nat)(h:IA n=true):Nl [x,y,z] n:=nl _ n h
theorem kF{x y z u:Nat}(n:Nat)(h:IA n=true):Nl [x,y,z,u] n:=nl _ n h
theorem rj{x y z u v:Nat}(n:Nat)(h:IA n=true):Nl [x,y,z,u,v] n:=nl _ n h
theorem OO{x y z u v w:Nat}(n:Nat)(h:IA n=true):Nl [x,y,z,u,v,w] n:=nl _ n h
theorem ZS{x y z u v w a:Nat}(n:Nat)(h:IA n=true):Nl [x,y,z,u,v,w,a] n:=nl _ n h
theorem x5{x y z u v w a b:Nat}(n:Nat)(h:IA n=true):Nl [x,y,z,u,v,w,a,b] n:=nl _ n h
theorem uo{a b:Nat}:a<=a-b+b:=Nat.le_add_of_sub_le (ah _)
theorem tW{a b:Nat}(h:0<a-b):a-b+b=a:=aq (le_of_lt (Nat.lt_of_sub_pos h))
theorem iz{k:Nat}:¬(k:Int)<0:=Int.not_lt.mpr (natCast_nonneg k)
theorem ig{i n:Nat}(h:i<n):¬(i:Int)>=n:=fun z=>Nat.not_le.mpr h (ofNat_le.mp z)
theorem m3{k:Nat} : -2^63<=(k:Int):=Int.le_trans (by decide) (natCast_nonneg k)
theorem Vv{k:Nat}(h:k<=16777217):(k:Int)<2^63:=Int.lt_of_le_of_lt (ofNat_le.mpr h) (by decide)
theorem ZV{n:Nat}:((-1:Int)+n).toNat=n-1:=(az Int.toNat (Int.add_comm (-1) n)).trans (Int.toNat_sub n 1)
theorem lst{n:Nat}(h:0<n):(0<=(-1:Int)+n/\(-1:Int)+n<n)/\((-1:Int)+n).toNat=n-1:=by
 refine⟨⟨?_,?_⟩,ZV⟩
 .exact Int.le_trans (Int.sub_nonneg_of_le (ofNat_le.mpr h)) (Int.le_of_eq (Int.add_comm n (Int.neg 1)))
 .exact Int.lt_of_lt_of_le (Int.add_lt_add_right (by decide:(-1:Int)<0) n) (Int.le_of_eq (Int.zero_add n))
theorem la{a b c d:Nat}(h:a+b<=c)(k:c<=d):a<=d:=ag (ag (aK a b) h) k
theorem ZQ{a m g:Nat}:a+1+m+g+1=a+(m+1+g+1):=by rw [Nat.add_assoc a 1,Nat.add_comm 1,Nat.add_assoc a,Nat.add_assoc a]
theorem u6{α:Type _}{a b c d:List α}:a++(b++(c++d))=a++b++c++d:=((aw ..).trans (aw ..)).symm
theorem WU{α:Type _}{a b c:List α}:a++(b++c)=a++b++c:=(aw ..).symm
section
set_option genCtorIdx true
theorem dJ{P:α->β->Prop}(a)(b)(h:P a b):∃a b,P a b:=⟨a,b,h⟩
theorem kj{P:α->β->d->Prop}(a)(b)(c)(h:P a b c):∃a b c,P a b c:=(dJ a b ⟨c,h⟩)
theorem oP{P:α->β->e->f->Prop}(a)(b)(c)(d)(h:P a b c d):∃a b c d,P a b c d:=(kj a b c ⟨d,h⟩)
theorem Td{P:α->β->f->i->g->Prop}(a)(b)(c)(d)(e)(h:P a b c d e):∃a b c d e,P a b c d e:=(oP a b c d ⟨e,h⟩)
theorem SY{P:α->β->g->k->i->j->Prop}(a)(b)(c)(d)(e)(f)(h:P a b c d e f):∃a b c d e f,P a b c d e f:=(oP a b c d ⟨e,f,h⟩)
theorem bY{G:Prop}(h:P/\Q)(k:P->Q->G):G:=k h.1 h.2
theorem fq{G:Prop}(h:P/\Q/\R)(k:P->Q->R->G):G:=bY h.2 (k h.1)
theorem tB{S:Prop}{G:Prop}(h:P/\Q/\R/\S)(k:P->Q->R->S->G):G:=fq h.2 (k h.1)
theorem BL{G:Prop}(h:P/\Q/\R/\S/\T)(k:P->Q->R->S->T->G):G:=tB h.2 (k h.1)
theorem cN{P:α->Prop}{G:Prop}(h:∃a,P a)(k:∀a,P a->G):G:=h.elim fun a h=>k a h
theorem bW{α:Sort _}{P Q:α->Prop}{G:Prop}(h:∃a,P a/\Q a)(k:∀a,P a->Q a->G):G:=h.elim fun a h=>bY h (k a)
theorem cS{α:Sort _}{P Q R:α->Prop}{G:Prop}(h:∃a,P a/\Q a/\R a)(k:∀a,P a->Q a->R a->G):G:=h.elim fun a h=>fq h (k a)
theorem dW{α:Sort _}{P Q R S:α->Prop}{G:Prop}(h:∃a,P a/\Q a/\R a/\S a)(k:∀a,P a->Q a->R a->S a->G):G:=h.elim fun a h=>tB h (k a)
theorem PF{α:Sort _}{P Q R S T:α->Prop}{G:Prop}(h:∃a,P a/\Q a/\R a/\S a/\T a)(k:∀a,P a->Q a->R a->S a->T a->G):G:=h.elim fun a h=>BL h (k a)
theorem uc{P:α->β->Prop}{G:Prop}(h:∃a b,P a b)(k:∀a b,P a b->G):G:=h.elim fun a h=>h.elim fun b h=>k a b h
theorem eF{α β:Sort _}{P Q:α->β->Prop}{G:Prop}(h:∃a b,P a b/\Q a b)(k:∀a b,P a b->Q a b->G):G:=h.elim fun a h=>bW h (k a)
theorem cw{P Q R:α->β->Prop}{G:Prop}(h:∃a b,P a b/\Q a b/\R a b)(k:∀a b,P a b->Q a b->R a b->G):G:=h.elim fun a h=>cS h (k a)
theorem rm{P Q R S:α->β->Prop}{G:Prop}(h:∃a b,P a b/\Q a b/\R a b/\S a b)(k:∀a b,P a b->Q a b->R a b->S a b->G):G:=h.elim fun a h=>dW h (k a)
theorem Kf{P Q R S T:α->β->Prop}{G:Prop}(h:∃a b,P a b/\Q a b/\R a b/\S a b/\T a b)(k:∀a b,P a b->Q a b->R a b->S a b->T a b->G):G:=h.elim fun a h=>PF h (k a)
theorem YI{α:Sort _}{P Q R S T U:α->β->Prop}{G:Prop}(h:∃a b,P a b/\Q a b/\R a b/\S a b/\T a b/\U a b)(k:∀a b,P a b->Q a b->R a b->S a b->T a b->U a b->G):G:=h.elim fun a h=>h.elim fun b h=>BL h fun p q r s c=>k a b p q r s c.1 c.2
theorem ro{P Q R S T U V:α->β->Prop}{G:Prop}(h:∃a b,P a b/\Q a b/\R a b/\S a b/\T a b/\U a b/\V a b)(k:∀a b,P a b->Q a b->R a b->S a b->T a b->U a b->V a b->G):G:=h.elim fun a h=>h.elim fun b h=>k a b h.1 h.2.1 h.2.2.1 h.2.2.2.1 h.2.2.2.2.1 h.2.2.2.2.2.1 h.2.2.2.2.2.2
theorem lQ{P Q:α->β->d->Prop}{G:Prop}(h:∃a b c,P a b c/\Q a b c)(k:∀a b c,P a b c->Q a b c->G):G:=h.elim fun a h=>eF h (k a)
theorem xT{P Q R:α->β->d->Prop}{G:Prop}(h:∃a b c,P a b c/\Q a b c/\R a b c)(k:∀a b c,P a b c->Q a b c->R a b c->G):G:=h.elim fun a h=>cw h (k a)
theorem jQ{α β d:Sort _}{P Q R S:α->β->d->Prop}{G:Prop}(h:∃a b c,P a b c/\Q a b c/\R a b c/\S a b c)(k:∀a b c,P a b c->Q a b c->R a b c->S a b c->G):G:=h.elim fun a h=>rm h (k a)
theorem xD{α β d:Sort _}{P Q R S T:α->β->d->Prop}{G:Prop}(h:∃a b c,P a b c/\Q a b c/\R a b c/\S a b c/\T a b c)(k:∀a b c,P a b c->Q a b c->R a b c->S a b c->T a b c->G):G:=h.elim fun a h=>Kf h (k a)
theorem MH{P Q R S T U:α->β->d->Prop}{G:Prop}(h:∃a b c,P a b c/\Q a b c/\R a b c/\S a b c/\T a b c/\U a b c)(k:∀a b c,P a b c->Q a b c->R a b c->S a b c->T a b c->U a b c->G):G:=h.elim fun a h=>h.elim fun b h=>h.elim fun c h=>k a b c h.1 h.2.1 h.2.2.1 h.2.2.2.1 h.2.2.2.2.1 h.2.2.2.2.2
theorem QW{α β d:Sort _}{P Q R S T U V:α->β->d->Prop}{G:Prop}(h:∃a b c,P a b c/\Q a b c/\R a b c/\S a b c/\T a b c/\U a b c/\V a b c)(k:∀a b c,P a b c->Q a b c->R a b c->S a b c->T a b c->U a b c->V a b c->G):G:=h.elim fun a h=>ro h (k a)
theorem TP{α β e f:Sort _}{P Q R:α->β->e->f->Prop}{G:Prop}(h:∃a b c d,P a b c d/\Q a b c d/\R a b c d)(k:∀a b c d,P a b c d->Q a b c d->R a b c d->G):G:=h.elim fun a h=>xT h (k a)
theorem Ju{α β e f:Sort _}{P Q R S:α->β->e->f->Prop}{G:Prop}(h:∃a b c d,P a b c d/\Q a b c d/\R a b c d/\S a b c d)(k:∀a b c d,P a b c d->Q a b c d->R a b c d->S a b c d->G):G:=h.elim fun a h=>jQ h (k a)
theorem yB{α β e f:Sort _}{P Q R S T:α->β->e->f->Prop}{G:Prop}(h:∃a b c d,P a b c d/\Q a b c d/\R a b c d/\S a b c d/\T a b c d)(k:∀a b c d,P a b c d->Q a b c d->R a b c d->S a b c d->T a b c d->G):G:=h.elim fun a h=>xD h (k a)
theorem TV{α β e f:Sort _}{P Q R S T U V:α->β->e->f->Prop}{G:Prop}(h:∃a b c d,P a b c d/\Q a b c d/\R a b c d/\S a b c d/\T a b c d/\U a b c d/\V a b c d)(k:∀a b c d,P a b c d->Q a b c d->R a b c d->S a b c d->T a b c d->U a b c d->V a b c d->G):G:=h.elim fun a h=>QW h (k a)
theorem Wa{α β e f:Sort _}{P Q R S T U V W X:α->β->e->f->Prop}{G:Prop}(h:∃a b c d,P a b c d/\Q a b c d/\R a b c d/\S a b c d/\T a b c d/\U a b c d/\V a b c d/\W a b c d/\X a b c d)(k:∀a b c d,P a b c d->Q a b c d->R a b c d->S a b c d->T a b c d->U a b c d->V a b c d->W a b c d->X a b c d->G):G:=h.elim fun a h=>h.elim fun b h=>h.elim fun c h=>h.elim fun d h=>k a b c d h.1 h.2.1 h.2.2.1 h.2.2.2.1 h.2.2.2.2.1 h.2.2.2.2.2.1 h.2.2.2.2.2.2.1 h.2.2.2.2.2.2.2.1 h.2.2.2.2.2.2.2.2
theorem Rv{α β f i g:Sort _}{P Q:α->β->f->i->g->Prop}{G:Prop}(h:∃a b c d e,P a b c d e/\Q a b c d e)(k:∀a b c d e,P a b c d e->Q a b c d e->G):G:=h.elim fun a h=>h.elim fun b h=>h.elim fun c h=>eF h (k a b c)
theorem JO{α β f i g:Sort _}{P Q R S:α->β->f->i->g->Prop}{G:Prop}(h:∃a b c d e,P a b c d e/\Q a b c d e/\R a b c d e/\S a b c d e)(k:∀a b c d e,P a b c d e->Q a b c d e->R a b c d e->S a b c d e->G):G:=h.elim fun a h=>h.elim fun b h=>jQ h (k a b)
theorem YU{α β j o l n p m:Sort _}{P Q:α->β->j->o->l->n->p->m->Prop}{G:Prop}(h:∃a b c d e f g i,P a b c d e f g i/\Q a b c d e f g i)(k:∀a b c d e f g i,P a b c d e f g i->Q a b c d e f g i->G):G:=h.elim fun a h=>h.elim fun b h=>h.elim fun c h=>Rv h (k a b c)
theorem TF{α β g j i l:Sort _}{P Q R:α->β->g->j->i->l->Prop}{G:Prop}(h:∃a b c d e f,P a b c d e f/\Q a b c d e f/\R a b c d e f)(k:∀a b c d e f,P a b c d e f->Q a b c d e f->R a b c d e f->G):G:=h.elim fun a h=>h.elim fun b h=>TP h (k a b)
theorem YK{α β g l i j:Sort _}{P Q R S:α->β->g->l->i->j->Prop}{G:Prop}(h:∃a b c d e f,P a b c d e f/\Q a b c d e f/\R a b c d e f/\S a b c d e f)(k:∀a b c d e f,P a b c d e f->Q a b c d e f->R a b c d e f->S a b c d e f->G):G:=h.elim fun a h=>JO h (k a)
theorem wY{α β g l i j:Sort _}{P Q R S T:α->β->g->l->i->j->Prop}{G:Prop}(h:∃a b c d e f,P a b c d e f/\Q a b c d e f/\R a b c d e f/\S a b c d e f/\T a b c d e f)(k:∀a b c d e f,P a b c d e f->Q a b c d e f->R a b c d e f->S a b c d e f->T a b c d e f->G):G:=h.elim fun a h=>h.elim fun b h=>yB h (k a b)
inductive bQ where
 |none
 |bool (b:Bool)
 |int (i:Int)
 |str (s:Str)
 |sym (k:Nat)
 |vals (vs:List Value)
deriving Inhabited
noncomputable def bQ.yL:bQ->bQ->Bool
 |.none,y=>match y with |.none=>true|_=>false
 |.bool a,y=>match y with |.bool b=>a==b|_=>false
 |.int a,y=>match y with |.int b=>decide (a=b)|_=>false
 |.str a,y=>match y with |.str b=>a.cps.toList==b.cps.toList|_=>false
 |.sym a,y=>match y with |.sym b=>a==b|_=>false
 |.vals _,_=>false
noncomputable def bQ.Sg:List bQ->List bQ->Bool
 |[],[]=>true
 |x::xs,y::ys=>x.yL y&&Sg xs ys
 |_,_=>false
inductive AV where
 |lf (x:bQ)
 |tup (xs:List AV)
 |cv (f:Addr) (self:AV)
 |obj (i:Nat)
 |top (v:Value)
deriving Inhabited
inductive AO where
 |list (xs:List AV)
 |dict (es:List (Str×AV))
 |inst (C:Addr) (as:List (Str×AV))
 |dy (o:Obj) (xs:List AV)
 |fK (xs:List AV) (k:Nat) (zs:List AV)
deriving Inhabited
structure St where
 sc:Scope
 loc:List (Str×AV)
 obj:List AO
 dep:Nat
inductive Fl where
 |next|brk|cont
 |ret (v:AV)
deriving Inhabited
abbrev R(α:Type):=Option (α×St)
abbrev I(β:Type):=St->R β
noncomputable def ret(b:β):I β:=fun σ=>some (b,σ)
noncomputable def cv(i:I β)(f:β->I a):I a:=fun σ=>(i σ).bind fun p=>f p.1 p.2
noncomputable def eB:I β:=fun _=>none
noncomputable def Xe(o:Option β):I β:=fun σ=>o.map fun b=>(b,σ)
noncomputable def rd(f:St->Option β):I β:=fun σ=>(f σ).map fun b=>(b,σ)
inductive Op where
 |add|sub|fdiv|fmod|neg|lt|le|ge|eq|FV|Na|idx|slice|truth
 |len|ord|chr|pick|join|starts|count|rfind|lower|qp|toInt|Zw|rev|mem
deriving DecidableEq,Inhabited
noncomputable def big:Nat:=1000000
noncomputable def SN:List Nat->List Nat->Bool
 |[],[]=>false
 |[],_::_=>true
 |_::_,[]=>false
 |x::xs,y::ys=>if x<y then true else if y<x then false else SN xs ys
noncomputable def iN:bQ->Option (Option (Int×Tok))
 |.none=>some none
 |.int i=>some (some (i,0))
 |_=>none
noncomputable def strsOf:List bQ->Option (List Str)
 |[]=>some []
 |.str s::r=>(strsOf r).map (s::·)
 |_=>none
def fN(s:Str):Option bQ:=bif decide (s.length<=big) then some (.str s) else none
noncomputable def CO:bQ->bQ->Option Bool
 |.int a,y=>match y with |.int b=>some (decide (a=b))|.none=>some false |.str _=>some false|_=>none
 |.str a,y=>match y with |.str b=>some (a==b)|.sym _=>none|_=>some false
 |.bool a,y=>match y with |.bool b=>some (a==b)|.none=>some false |.str _=>some false|_=>none
 |.none,y=>match y with |.none=>some true |.sym _=>none|_=>some false
 |.sym _,_=>none
 |.vals _,_=>none
noncomputable def Vd:Op->Int->Int->Option bQ
 |.add,x,y=>some (.int (x+y))
 |.sub,x,y=>some (.int (x-y))
 |.fdiv,x,y=>bif decide (0<y)&&decide (y<=1000000) then some (.int (x.fdiv y)) else none
 |.fmod,x,y=>bif decide (0<y) then some (.int (x.fmod y)) else none
 |.lt,x,y=>some (.bool (decide (x<y)))
 |.le,x,y=>some (.bool (decide (x<=y)))
 |.ge,x,y=>some (.bool (decide (x>=y)))
 |_,_,_=>none
def Vf:Op->Str->Str->Option bQ
 |.add,x,y=>fN (x++y)
 |.lt,x,y=>some (.bool (SN x.cps.toList y.cps.toList))
 |.le,x,y=>some (.bool (!SN y.cps.toList x.cps.toList))
 |.Na,y,x=>some (.bool !(Builtin.Str.occurrences x y 0 x.length 1).isEmpty)
 |.starts,x,y=>some (.bool (Txt.startswith x y))
 |_,_,_=>none
noncomputable def GW(m:int_private% "Numeral"):Option Int:=(int_private% "Numeral.rec") none (fun _=>none) none (fun i=>some i) m
def zj(s:Str)(k:Int):Option Int:=bif decide (k=10\/k=16)&&(decide ((numSeenOf s).length<=640)&&((numSeenOf s).length==(numTextOf s).length)) then GW ((int_private% "readNumeral") 0 k.toNat (numSeenOf s)) else none
def Tw:Op->Str->Int->Option bQ
 |.idx,x,k=>bif !(decide (k < -(2^63))||decide (k>=2^63)) then((seqIndex? k x.length).bind (x.cps[·]?)).map fun c=>.str ⟨#[c]⟩ else none
 |.toInt,x,k=>(zj x k).map .int
 |_,_,_=>none
def rC(o:Op)(x y:bQ):Option bQ:=match x with
 |.int a=>match y with
  |.int b=>Vd o a b
  |_=>none
 |.str a=>match y with
  |.str b=>Vf o a b
  |.int b=>Tw o a b
  |_=>none
 |_=>none
noncomputable def Ni(b:Bool):Option bQ:=some (.bool b)
def zR(o:Op)(x:bQ):Option bQ:=match x with
 |.none=>match o with | .FV=>Ni true |.truth=>Ni false|_=>none
 |.bool b=>match o with | .FV=>Ni false |.truth=>Ni b|_=>none
 |.int i=>match o with
  |.FV=>Ni false
  |.truth=>Ni (i !=0)
  |.neg=>some (.int (-i))
  |.Zw=>bif decide (0<=i)&&decide (i<1000000) then fN (Str.ofString (toString i)) else none
  |.chr=>bif !(decide (i<0)||decide (i>0x10FFFF)) then some (.str ⟨#[i.toNat]⟩) else none
  |_=>none
 |.str s=>match o with
  |.FV=>Ni false
  |.truth=>Ni ((s.length:Int) !=0)
  |.len=>some (.int s.length)
  |.ord=>match s.cps.toList with|[c]=>some (.int c)|_=>none
  |.lower=>fN (Txt.lower s)
  |.rev=>fN ⟨((slicePicked s none none (some (-1,0))).filterMap (s.cps[·]?)).toArray⟩
  |_=>none
 |.sym _=>none
 |.vals _=>none
noncomputable def CC:bQ->Option Str
 |.str s=>some s
 |_=>none
noncomputable def so(x y z:Str):Str:=Builtin.Str.glued z (Builtin.Str.partsBetween x (Builtin.Str.occurrences x y 0 x.length (x.length+1)) y.length)
def VO(x y z:Str):Option bQ:=bif decide (1<=y.length)&&!Builtin.Str.tooLong (x.length+(Builtin.Str.occurrences x y 0 x.length (x.length+1)).length*z.length) then fN (so x y z) else none
def UQ(o:Op)(x y z:bQ):Option bQ:=match x,o with
 |.str x,.qp=>(CC y).bind fun y=>(CC z).bind fun z=>VO x y z
 |.str s,.slice=>(iN y).bind fun l=>(iN z).bind fun u=>fN (bif (slicePicked s l u none).length==s.length then s else⟨((slicePicked s l u none).filterMap (s.cps[·]?)).toArray⟩)
 |_,_=>none
noncomputable def lint:bQ->Option Int
 |.int s=>some s
 |_=>none
noncomputable def qC(o:Option Nat):Int:=match o with
 |some k=>k
 |none=>-1
def a9(o:Op)(x y i j:bQ):Option bQ:=(CC x).bind fun x=>(CC y).bind fun y=>(lint i).bind fun i=>(lint j).bind fun j=>match o with
 |.count=>some (.int (Builtin.Str.occurrences x y (fromIndex x.length i) (min (fromIndex x.length j) x.length) (x.length+1)).length)
 |.rfind=>some (.int (qC (Builtin.Str.lastOccurrence x y (fromIndex x.length i) (min (fromIndex x.length j) x.length))))
 |_=>none
def ZP:List bQ->Option bQ
 |.str sep::r=>(strsOf r).bind fun l=>bif JoinOk sep l then fN (Txt.join sep l) else none
 |_=>none
noncomputable def Bw(i:Int):Bool:=decide (-(2^63)<=i)&&decide (i<2^63)
def WZ(xs:List bQ):Option bQ:=match xs with
 |y::ls=>(lint y).bind fun i=>bif Bw i then(seqIndex? i ls.length).bind fun k=>ls[k]? else none
 |[]=>none
noncomputable def oJ(x:bQ):List bQ->Option Bool
 |[]=>some false
 |y::r=>(CO y x).bind fun b=>(oJ x r).map fun c=>b||c
def E6(xs:List bQ):Option bQ:=match xs with
 |x::ys=>(oJ x ys).map .bool
 |[]=>none
def ew(o:Op)(xs:List bQ):Option bQ:=match o with
 |.join=>ZP xs
 |.pick=>WZ xs
 |.mem=>E6 xs
 |.eq=>match xs with|[x,y]=>(CO x y).map .bool|_=>none
 |o=>match xs with
  |[x]=>zR o x
  |[x,y]=>rC o x y
  |[x,y,z]=>UQ o x y z
  |[x,y,i,j]=>a9 o x y i j
  |_=>none
noncomputable def isLit:bQ->Bool
 |.sym _=>false
 |_=>true
structure Fact where
 op:Op
 args:List bQ
 res:bQ
def kH(Φ:List Fact)(o:Op)(xs:List bQ):Option bQ:=
 if xs.all isLit then ew o xs else(Φ.find? fun f=>decide (f.op=o)&&bQ.Sg f.args xs).map (·.res)
noncomputable def ff:Option bQ->Option Bool
 |some (.bool b)=>some b
 |_=>none
def kZ(K:Frag):Value->Option AV
 |.none=>some (.lf .none)
 |.bool b=>some (.lf (.bool b))
 |.int i _=>some (.lf (.int i))
 |.str s t=>match t with|0=>none|_+1=>bif decide (s.length<=big) then some (.lf (.str s)) else none
 |.ref a=>(K.lookup a).map fun _=>.top (.ref a)
 |.type n=>some (.top (.type n))
 |.builtin n=>some (.top (.builtin n))
 |_=>none
noncomputable def nC(K:Frag):List Value->Option (List AV)
 |[]=>some []
 |v::r=>(kZ K v).bind fun x=>(nC K r).map (x::·)
noncomputable def put(x:Str)(v:AV):List (Str×AV)->List (Str×AV)
 |[]=>[(x,v)]
 |(y,u)::r=>if y==x then(y,v)::r else(y,u)::put x v r
inductive View where
 |tup (xs:List AV)
 |list (xs:List AV)
 |dict (es:List (Str×AV))
 |jR (es:List (Int×AV))
 |inst (C:Addr) (d:Addr)
 |no
noncomputable def fP(K:Frag):List DictEntry->Option (List (Str×AV))
 |[]=>some []
 |e::r=>match e.key with
  |.str x _=>match kZ K e.val with
   |some v=>(fP K r).map ((x,v)::·)
   |none=>none
  |_=>none
noncomputable def eW(K:Frag):List DictEntry->Option (List (Int×AV))
 |[]=>some []
 |e::r=>match e.key with
  |.int i _=>match kZ K e.val with
   |some v=>(eW K r).map ((i,v)::·)
   |none=>none
  |_=>none
noncomputable def ik:Nat:=100000
def gq(K:Frag)(f:List AV->View)(xs:Array Value):View:=match nC K xs.toList with
 |some l=>if l.length<=ik then f l else .no
 |none=>.no
def jI(K:Frag)(a:Addr)(es:Array DictEntry)(sl:Array (Option Value)):View:=
 if sl = #[]/\es.size<=ik/\(a==sysModules)=false then(match fP K es.toList with
  |some l=>.dict l
  |none=>match eW K es.toList with
   |some l=>.jR l
   |none=>.no) else .no
def zU(K:Frag)(a:Addr)(o:Obj):View:=match o.data with
 |.seq xs _=>if o.cls=.type "tuple" then gq K .tup xs else if o.cls=.type "list" then gq K .list xs else .no
 |.dict es _=>if o.cls=.type "dict"/\o.dict=none then jI K a es o.slots else .no
 |.plain=>match o.cls,o.dict with
  |.ref C,some d=>.inst C d
  |_,_=>.no
 |_=>.no
def cM(K:Frag)(a:Addr):View:=match K.lookup a with
 |some o=>zU K a o
 |none=>.no
theorem q9{P:Nat->Prop}(a:P 0)(b:P 1):∀e,e<2->P e:=fun e h=>by
 rcases e with _|_|e
 .exact a
 .exact b
 .exact absurd h (Nat.not_lt.mpr (le_add_left 2 e))
theorem HZ{P:Nat->Prop}(a:P 0)(b:P 1)(c:P 2):∀e,e<3->P e:=fun e h=>by
 rcases e with _|e
 .exact a
 .exact q9 (P:=fun e=>P (e+1)) b c e (Nat.lt_of_succ_lt_succ h)
theorem A5{P:Nat->Prop}(a:P 0)(b:P 1)(c:P 2)(d:P 3)(e:P 4)(f:P 5)(g:P 6)(h:P 7):∀i,i<8->P i:=fun i q=>by
 rcases i with _|_|_|_|_|i
 .exact a
 .exact b
 .exact c
 .exact d
 .exact e
 .exact HZ (P:=fun e=>P (e+5)) f g h i (Nat.lt_of_add_lt_add_right q)
theorem two_at{α β:Type}{P:α->β->Prop}{a b:α}{x y:β}(g:P a x)(f:P b y):∀(i:Nat) k o,[a,b][i]?=some k->[x,y][i]?=some o->P k o:=fun i k o d e=>by
 rcases i with _|_|i
 ·(injection d with c;subst c);(injection e with c;subst c);exact g
 ·(injection d with c;subst c);(injection e with c;subst c);exact f
 .cases d
theorem ku{α β:Type}{P:α->β->Prop}{a:α}{x:β}(e:P a x):∀(i:Nat) k o,[a][i]?=some k->[x][i]?=some o->P k o:=fun i k o c d=>by
 rcases i with _|i
 ·(injection c with b;subst b);(injection d with b;subst b);exact e
 .cases c
end
abbrev Xj:=Nat->Nat×Nat
theorem qk{h:Heap}(e:h.get? a=some o):a<h.objs.size:=Heap.lt_size e
theorem cK(h:Heap)(a:h.objs.size<=n):h.get? n=none:=Heap.get?_none_of_le a
theorem bX{h:Heap}(e:h.get? a=some o)(q:h.get? b=none):a≠b:=fun z=>Cm ((z▸e).symm.trans q)
noncomputable def gL(o:Obj):Bool:=match o.data with
 |.seq _ _=>o.cls==.type "tuple"
 |.fields _=>o.cls==.type "method"
 |_=>false
structure Ctx where
 K:Frag
 h₀:Heap
 prog:Program
 w:World
 θ:Nat->bQ
 Φ:List Fact
noncomputable abbrev Ctx.M(C:Ctx):Model:=model C.prog C.w
noncomputable def Ctx.cn(C:Ctx):bQ->bQ
 |.sym k=>C.θ k
 |x=>x
noncomputable def kD(x:bQ):List AV:=match x with
 |.vals a=>(a.take 1000).map .top
 |_=>[]
structure Fm where
 A:Around
 env:Env
 L:Nat
structure Om where
 ρ:Xj
 n:Nat
 s:Shared
noncomputable abbrev Om.h(Ω:Om):Heap:=Ω.s.heap
noncomputable abbrev gy(s:Shared)(h:Heap)(t:Nat):Shared:=⟨h,s.gens,s.drawn,t,s.os⟩
abbrev Om.mv(Ω:Om)(h:Heap)(t:Nat):Om:=⟨Ω.ρ,Ω.n,gy Ω.s h t⟩
inductive LR:bQ->Value->Prop
 |none:LR .none .none
 |bool (b:Bool):LR (.bool b) (.bool b)
 |int (i:Int) (t:Tok):LR (.int i) (.int i t)
 |str (x:Str) (t:Tok) (s:x.length<=sizeLine) (z:t≠0):LR (.str x) (.str x t)
inductive VR(C:Ctx)(Ω:Om):AV->Value->Prop
 |lf (x:bQ) (v:Value) (q:LR (C.cn x) v):VR C Ω (.lf x) v
 |tup (xs:List AV) (vs:List Value) (a:Addr) (e:IsTup Ω.h a vs.toArray) (l:xs.length=vs.length) (s:xs.length<=sizeLine)
   (q:∀(i:Nat) x v,xs[i]?=some x->vs[i]?=some v->VR C Ω x v):VR C Ω (.tup xs) (.ref a)
 |cv (f a:Addr) (x:AV) (v:Value) (e:Ω.h.get? a=some (methodObj (.ref f) v)) (q:VR C Ω x v):VR C Ω (.cv f x) (.ref a)
 |obj (i:Nat) (hi:i<Ω.n):VR C Ω (.obj i) (.ref (Ω.ρ i).1)
 |top (v:Value):VR C Ω (.top v) v
def LR.Inv(x:bQ)(v:Value):Prop:=match x with
 |.none=>v=.none
 |.bool b=>v=.bool b
 |.int i=>∃t,v=.int i t
 |.str s=>∃t,v=.str s t/\s.length<=sizeLine/\t≠0
 |_=>False
theorem LR.inv(h:LR x v):LR.Inv x v:=by
 induction h with
 |none=>exact rfl
 |bool=>exact rfl
 |int _ t=>exact⟨t,rfl⟩
 |str _ t s z=>exact⟨t,rfl,s,z⟩
def VR.Inv(C:Ctx)(Ω:Om)(a:AV)(v:Value):Prop:=match a with
 |.lf x=>LR (C.cn x) v
 |.obj i=>v=.ref (Ω.ρ i).1
 |.top w=>v=w
 |_=>True
theorem VR.inv(h:VR C Ω a v):VR.Inv C Ω a v:=by
 induction h with
 |lf _ _ q=>exact q
 |obj=>exact rfl
 |top=>exact rfl
 |_=>exact trivial
structure de(C:Ctx)(Ω:Om)(xs:List AV)(vs:List Value):Prop where
 len:xs.length=vs.length
 at_:∀(i:Nat) x (v:Value),xs[i]?=some x->vs[i]?=some v->VR C Ω x v
structure gv(s s':Shared):Prop where
 gens:s'.gens.toList.take s.gens.size=s.gens.toList
 bare:s'.gens.toList.all GenState.bare=s.gens.toList.all GenState.bare
 drawn:s'.drawn=s.drawn
 os:s'.os=s.os
 toks:s.toks<=s'.toks
structure W(L:Nat)(Ω cb:Om):Prop where
 le:Ω.n<=cb.n
 same:∀i,i<Ω.n->cb.ρ i=Ω.ρ i
 fresh:∀i,Ω.n<=i->i<cb.n->Ω.h.get? (cb.ρ i).1=none/\Ω.h.get? (cb.ρ i).2=none
 alive:∀(b:Nat) o,Ω.h.get? b=some o->∃o',cb.h.get? b=some o'
 keep:∀(b:Nat) o,Ω.h.get? b=some o->b≠L->(∀i,i<Ω.n->b≠(Ω.ρ i).1/\b≠(Ω.ρ i).2)->cb.h.get? b=some o
 ru:∀(b:Nat) o,Ω.h.get? b=some o->gL o=true->cb.h.get? b=some o
 sm:gv Ω.s cb.s
section
variable{C:Ctx}{L:Nat}{Ω cb Ua:Om}
theorem gv.refl:gv s s:=⟨by exact eR length_toList (eL take_length rfl),rfl,rfl,rfl,ah _⟩
theorem gv.trans(a:gv s s')(b:gv s' c):gv s c:=
 ⟨by
  have h:=az length a.gens;have:=az (take s.gens.size) b.gens;rw [bE,length_toList,length_toList] at h;rw [List.take_take,min_eq_left (by exact dN 0x10F127F204F10 tt (bO _ _) h),a.gens] at this;exact this,b.bare.trans a.bare,b.drawn.trans a.drawn,b.os.trans a.os,ag a.toks b.toks⟩
theorem gv.mk'{s:Shared}{h:Heap}{t:Nat}(a:s.toks<=t):gv s (gy s h t):=
 ⟨gv.refl.gens,rfl,rfl,rfl,a⟩
theorem W.refl:W L Ω Ω:=⟨ah _,fun _ _=>rfl,fun _ a b=>absurd b (Nat.not_lt.mpr a),fun _ o e=>⟨o,e⟩,fun _ _ e _ _=>e,fun _ _ e _=>e,.refl⟩
theorem W.back(w:W L Ω cb)(e:cb.h.get? b=none):Ω.h.get? b=none:=Option.eq_none_iff_forall_ne_some.mpr fun o q=>(w.alive b o q).elim fun _ a=>Cm (a.symm.trans e)
theorem W.trans(a:W L Ω cb)(b:W L cb Ua):W L Ω Ua:=
 ⟨ag a.le b.le,fun i hi=>(b.same i (aS hi a.le)).trans (a.same i hi),
  fun i f d=>(aV i cb.n).elim (fun q=>b.same i q▸a.fresh i f q) fun q=>⟨a.back (b.fresh i q d).1,a.back (b.fresh i q d).2⟩,
  fun x o e=>(a.alive x o e).elim fun o'=>b.alive x o',
  fun x o e nl no=>b.keep x o (a.keep x o e nl no) nl fun i hi=>(aV i Ω.n).elim (fun q=>a.same i q▸no i q) fun q=>⟨bX e (a.fresh i q hi).1,bX e (a.fresh i q hi).2⟩,
  fun x o e c=>b.ru x o (a.ru x o e c) c,a.sm.trans b.sm⟩
structure Mo(Ω cb:Om):Prop where
 le:Ω.n<=cb.n
 same:∀i,i<Ω.n->cb.ρ i=Ω.ρ i
 ru:∀(b:Nat) o,Ω.h.get? b=some o->gL o=true->cb.h.get? b=some o
theorem W.mo(w:W L Ω cb):Mo Ω cb:=⟨w.le,w.same,w.ru⟩
theorem sI(w:Mo Ω cb)(e:IsTup Ω.h a d):IsTup cb.h a d:=by
 exact cS e fun o e1 e2 c=>(cN c fun k b=>⟨o,w.ru _ _ e1 (by unfold gL;refine eL b (eL e2 ?_);rfl),e2,k,b⟩)
theorem VR.eK(w:Mo Ω cb)(r:VR C Ω x v):VR C cb x v:=by
 induction r with
 |lf x v q=>exact .lf x v q
 |tup xs c a e l s _ b=>exact .tup xs c a (sI w e) l s b
 |cv f a x v e _ b=>exact .cv f a x v (w.ru _ _ e rfl) b
 |obj i hi=>exact w.same i hi▸.obj i (aS hi w.le)
 |top v=>exact .top v
theorem VR.mono(w:W L Ω cb){x:AV}{v:Value}(r:VR C Ω x v):VR C cb x v:=r.eK w.mo
theorem de.eK(w:Mo Ω cb){xs c}(r:de C Ω xs c):de C cb xs c:=⟨r.len,fun i x v a b=>(r.at_ i x v a b).eK w⟩
theorem de.mono(w:W L Ω cb){xs a}(r:de C Ω xs a):de C cb xs a:=r.eK w.mo
theorem de.nil:de C Ω [] []:=⟨rfl,fun _ _ _ a _=>Cm (a.symm.trans getElem?_nil)⟩
theorem de.cons{x v xs c}(a:VR C Ω x v)(b:de C Ω xs c):de C Ω (x::xs) (v::c):=
 ⟨az Nat.succ b.len,fun i=>by
  rcases i with _|i
  .exact fun y u p q=>bB p▸bB q▸a
  .exact b.at_ i⟩
theorem de.cons_inv{x xs a}(r:de C Ω (x::xs) a):∃v us,a=v::us/\VR C Ω x v/\de C Ω xs us:=by
 rcases a with _|⟨v,us⟩
 .exact E9 r.len
 .exact (dJ v us ⟨rfl,r.at_ 0 _ _ rfl rfl,Nat.succ.inj r.len,fun i=>r.at_ (i+1)⟩)
theorem de.nil_inv{a}(r:de C Ω [] a):a=[]:=List.eq_nil_of_length_eq_zero r.len.symm
theorem de.append{ys us}:∀ {xs c},de C Ω xs c->de C Ω ys us->de C Ω (xs++ys) (c++us):=by
 intro xs;induction xs with
 |nil=>exact fun a b=>eL a.nil_inv b
 |cons x xs e=>
  intro c a b;refine cw a.cons_inv fun v us d h t=>?_
  clear a;subst d;exact .cons h (e t b)
inductive F2{α β:Type}(P:α->β->Prop):List α->List β->Prop
 |nil:F2 P [] []
 |cons {a:α} {b:β} {as:List α} {bs:List β} (h:P a b) (t:F2 P as bs):F2 P (a::as) (b::bs)
theorem F2.len(h:F2 P as bs):as.length=bs.length:=by
 induction h with
 |nil=>rfl
 |cons _ _ a=>exact az Nat.succ a
theorem F2.mono{α β:Type}{P Q:α->β->Prop}{as:List α}{bs:List β}(h:F2 P as bs)(k:∀a b,P a b->Q a b):F2 Q as bs:=by
 induction h with
 |nil=>exact .nil
 |cons h _ c=>exact .cons (k _ _ h) c
abbrev fW(C:Ctx)(Ω:Om)(es:List (Str×AV))(a:List (Str×Value)):Prop:=F2 (fun p e=>e.1=p.1/\VR C Ω p.2 e.2) es a
abbrev Cd(C:Ctx)(Ω:Om)(as:List (Str×AV))(a:List DictEntry):Prop:=F2 (fun p e=>(∃t,e.key=.str p.1 t)/\VR C Ω p.2 e.val) as a
def gz(C:Ctx)(Ω:Om)(a d:Nat):AO->Prop
 |.list xs=>∃b k,Ω.h.get? a=some (listOf b.toArray k)/\de C Ω xs b/\xs.length<=16777217
 |.dict es=>∃e,Ω.h.DictOf (strKind C.prog C.w) a e/\fW C Ω es e/\es.length<=100
 |.inst c as=>a≠d/\Ω.h.get? a=some (instObj c d)/\∃f k,Ω.h.get? d=some (dictOf f k)/\Cd C Ω as f/\as.length<=100
 |.dy o xs=>Ω.h.get? a=some o/\∃b,(o.cls=.type "list"/\∃n,o.data=.seq b.toArray n)/\de C Ω xs b/\xs.length<=16777217
 |.fK xs k zs=>∃b n,Ω.h.get? a=some (listOf b.toArray n)/\de C Ω (xs++(kD (C.θ k)++zs)) b/\(xs++(kD (C.θ k)++zs)).length<=16777217
theorem gz.mono(w:Mo Ω cb){a d:Nat}{o:AO}(b:∀ob,Ω.h.get? a=some ob->cb.h.get? a=some ob)(kd:∀ob,Ω.h.get? d=some ob->cb.h.get? d=some ob)(r:gz C Ω a d o):gz C cb a d o:=by
 rcases o with xs|es|⟨c,as⟩|⟨o,xs⟩|⟨xs,k,zs⟩
 .refine cw r fun f k e q l=>?_;exact(dJ f k ⟨b _ e,q.eK w,l⟩)
 .refine cS r fun j e q nd=>?_;exact⟨j,e.at b,q.mono fun _ _ z=>⟨z.1,z.2.eK w⟩,nd⟩
 ·(refine fq r fun ne e g=>?_;refine cw g fun i k m q l=>?_);exact⟨ne,b _ e,i,k,kd _ m,q.mono fun _ _ z=>⟨z.1,z.2.eK w⟩,l⟩
 ·(refine bY r fun e g=>?_;refine cS g fun f k q l=>?_);exact⟨b _ e,f,k,q.eK w,l⟩
 .refine cw r fun f n e q l=>?_;exact(dJ f n ⟨b _ e,q.eK w,l⟩)
def nh(C:Ctx)(Ω:Om)(L:Nat)(loc:List (Str×AV)):Prop:=
 ∃m,Ω.h.Ns L m/\(∀x av,loc.lookup x=some av->∃v,m x=some v/\VR C Ω av v)/\∀x,loc.lookup x=none->m x=none
def iU(p q:Nat×Nat):Prop:=p.1≠q.1/\p.1≠q.2/\p.2≠q.1/\p.2≠q.2
structure Rel(C:Ctx)(L:Nat)(Ω:Om)(σ:St):Prop where
 n:σ.obj.length=Ω.n
 fr:nh C Ω L σ.loc
 ob:∀i o,σ.obj[i]?=some o->gz C Ω (Ω.ρ i).1 (Ω.ρ i).2 o
 inj:∀i j,i<Ω.n->j<Ω.n->i≠j->iU (Ω.ρ i) (Ω.ρ j)
 eu:∀i,i<Ω.n->L≠(Ω.ρ i).1/\L≠(Ω.ρ i).2
 old:∀(b:Nat) o,C.h₀.get? b=some o->Ω.h.get? b=some o
 uK:C.h₀.get? L=none
 lo:∀i,i<Ω.n->C.h₀.get? (Ω.ρ i).1=none/\C.h₀.get? (Ω.ρ i).2=none
 hi:∀i,i<Ω.n->(∃o,Ω.h.get? (Ω.ρ i).1=some o)/\∃o,Ω.h.get? (Ω.ρ i).2=some o
 toks:Ω.s.toks≠0
variable{σ:St}
theorem Rel.lM(r:Rel C L Ω σ):∃o,Ω.h.get? L=some o:=r.fr.elim fun _ q=>q.1.elim fun o q=>q.elim fun _ q=>q.elim fun _ q=>⟨o,q.1⟩
theorem Rel.lt(r:Rel C L Ω σ)(e:σ.obj[i]?=some o):i<Ω.n:=r.n▸(au.mp e).1
theorem Rel.sJ(r:Rel C L Ω σ)(w:W L Ω cb){b:Nat}{o:Obj}(e:C.h₀.get? b=some o):cb.h.get? b=some o:=
 w.keep b o (r.old b o e) (bX e r.uK) fun i hi=>⟨bX e (r.lo i hi).1,bX e (r.lo i hi).2⟩
theorem nh.mono{l:List (Str×AV)}(w:Mo Ω cb){M:Nat}(k:∀o,Ω.h.get? M=some o->cb.h.get? M=some o)(r:nh C Ω M l):nh C cb M l:=by
 exact cS r fun m d a b=>(lQ d fun o es c e r=>⟨m,⟨o,es,c,k _ e,r⟩,fun x av q=>(a x av q).imp fun _ z=>⟨z.1,z.2.eK w⟩,b⟩)
theorem W.grown{c:Heap}{t:Nat}(d:Ω.s.toks<=t)(k:∀b o,Ω.h.get? b=some o->c.get? b=some o):W L Ω (Ω.mv c t):=
 ⟨ah _,fun _ _=>rfl,fun _ a b=>absurd b (Nat.not_lt.mpr a),fun b o e=>⟨o,k b o e⟩,fun b o e _ _=>k b o e,fun b o e _=>k b o e,.mk' d⟩
theorem Rel.grown(r:Rel C L Ω σ){c:Heap}{t:Nat}(a:Ω.s.toks<=t)(k:∀b o,Ω.h.get? b=some o->c.get? b=some o):Rel C L (Ω.mv c t) σ:=
 have w:=W.grown a k
 ⟨r.n,r.fr.mono w.mo (k _),fun i o e=>(r.ob i o e).mono w.mo (k _) (k _),r.inj,r.eu,fun _ _ e=>r.sJ w e,r.uK,r.lo,
  fun i hi=>⟨(r.hi i hi).1.imp fun _=>k _ _,(r.hi i hi).2.imp fun _=>k _ _⟩,bC (aS (pos_of_ne_zero r.toks) a)⟩
end
theorem Fc:put x v ((y,u)::r)=if y==x then(y,v)::r else(y,u)::put x v r:=rfl
theorem ef(x)(v)(y):∀l,(put x v l).lookup y=if y=x then some v else l.lookup y:=by
 intro l;induction l with
 |nil=>
  refine eL aY ?_;by_cases q:y=x
  .exact eL (if_pos q) (eL (aC.mpr q) rfl)
  .refine eL (if_neg q) (eL (aN.mpr q) ?_);rfl
 |cons b l a=>
  obtain⟨z,u⟩:=b;refine eL Fc ?_;by_cases e:z=x
  .clear a;subst e;refine eL (if_pos (bk _)) (eL aY (eL aY ?_));by_cases q:y=z
   .exact eL (if_pos q) (eL (aC.mpr q) rfl)
   .exact eL (if_neg q) (eL (aN.mpr q) rfl)
  .rw [if_neg (by rw [aC];exact e)];show List.lookup y ((z,u)::put x v l)=_;refine eL aY (eL aY (eL a ?_));by_cases q:y=z
   .refine eL (aC.mpr q) ?_;show some u=_;exact eL (if_neg (fun c=>e (q.symm.trans c))) rfl
   .exact eL (aN.mpr q) rfl
section
variable{Ω:Om}
theorem W.one(f:Ω.s.toks<=t)(c:∀x,x≠b->∀o,Ω.h.get? x=some o->d.get? x=some o)(hb:∃o,d.get? b=some o)(own:b=L\/∃i,i<Ω.n/\(b=(Ω.ρ i).1\/b=(Ω.ρ i).2))
  (j:∀o,Ω.h.get? b=some o->gL o=false):W L Ω (Ω.mv d t):=
 ⟨ah _,fun _ _=>rfl,fun _ a b=>absurd b (Nat.not_lt.mpr a),fun x o e=>(Nat.decEq x b).byCases (fun z=>z▸hb) fun z=>⟨o,c x z o e⟩,
  fun x o e g no=>c x (fun z=>own.elim (fun q=>g (z.trans q)) fun ⟨i,hi,q⟩=>q.elim (fun q=>(no i hi).1 (z.trans q)) fun q=>(no i hi).2 (z.trans q)) o e,
  fun x o e q=>c x (fun z=>noConfusion (q.symm.trans (j o (z▸e)))) o e,.mk' f⟩
theorem kJ{m}(e:Ω.h.Ns L m)(q:Ω.h.get? L=some o):gL o=false:=by
 refine xT e fun o' es b e d _=>?_
 (injection (q.symm.trans e) with a;subst a)
 unfold gL;exact eL d rfl
theorem Rel.Ri(r:Rel C L Ω σ){av:AV}{v:Value}(l:VR C Ω av v){m}(k:Ω.h.Ns L m)(p:∀x av,σ.loc.lookup x=some av->∃v,m x=some v/\VR C Ω av v)(j:∀x,σ.loc.lookup x=none->m x=none)
  (f:Ω.s.toks<=t) (g:d.Ns L (fun y=>if y=x then some v else m y)) (a:Heap.SameBut L Ω.h d):
  W L Ω (Ω.mv d t)/\Rel C L (Ω.mv d t) { σ with loc:=put x av σ.loc }:=by
 have w:=W.one f (fun y ne o e=>(a.2 y ne).trans e) (by refine lQ g fun o _ _ e _=>?_;exact⟨o,e⟩) (.inl rfl) fun o e=>kJ k e
 refine⟨w,r.n,⟨_,g,fun y u q=>?_,fun y q=>?_⟩,fun i o e=>?_,r.inj,r.eu,fun b o e=>r.sJ w e,r.uK,r.lo,fun i hi=>⟨(r.hi i hi).1.elim fun o=>w.alive _ o,(r.hi i hi).2.elim fun o=>w.alive _ o⟩,bC (aS (pos_of_ne_zero r.toks) f)⟩
 .rw [ef] at q;by_cases c:y=x
  .rw [if_pos c] at q ⊢;(injection q with A;subst A);exact⟨v,rfl,l.mono w⟩
  .rw [if_neg c] at q ⊢;exact(p y u q).imp fun _ z=>⟨z.1,z.2.mono w⟩
 .rw [ef] at q;by_cases c:y=x
  .rw [if_pos c] at q;exact Cm q
  .rw [if_neg c] at q ⊢;exact j y q
 .have nl:=r.eu i (r.lt e);exact(r.ob i o e).mono w.mo (fun ob q=>(a.2 _ (Ne.symm nl.1)).trans q) (fun ob q=>(a.2 _ (Ne.symm nl.2)).trans q)
noncomputable abbrev gQ(ρ:Xj)(n:Nat)(p:Nat×Nat):Xj:=fun i=>if i=n then p else ρ i
theorem fA(h:i<n):gQ ρ n p i=ρ i:=if_neg (ne_of_lt h)
theorem hY:gQ ρ n p n=p:=if_pos rfl
theorem mI{n:Nat}{p:Nat×Nat}{P:Nat×Nat->Prop}(a:∀i,i<n->P (ρ i))(b:P p)(i)(hi:i<n+1):P (gQ ρ n p i):=
 (lt_or_eq_of_le (le_of_lt_succ hi)).elim (fun q=>fA q▸a i q) fun q=>by subst q;exact eL hY b
abbrev Om.add(Ω:Om)(p:Nat×Nat):Om:=⟨gQ Ω.ρ Ω.n p,Ω.n+1,Ω.s⟩
theorem Mo.add{p:Nat×Nat}:Mo Ω (Ω.add p):=⟨aE _,fun _=>fA,fun _ _ e _=>e⟩
theorem Rel.add(r:Rel C L Ω σ){p:Nat×Nat}{o:AO}(own:∀i,i<Ω.n->iU (Ω.ρ i) p)(nl:L≠p.1/\L≠p.2)(lo:C.h₀.get? p.1=none/\C.h₀.get? p.2=none)(hi:(∃o,Ω.h.get? p.1=some o)/\∃o,Ω.h.get? p.2=some o)
  (ho:gz C (Ω.add p) p.1 p.2 o):Rel C L (Ω.add p) { σ with obj:=σ.obj++[o] }:=by
 refine⟨by refine eL aa (eL r.n ?_);rfl,r.fr.mono .add fun _ e=>e,fun i o' e=>?_,fun i j hi a ne=>?_,mI (P:=fun p=>L≠p.1/\L≠p.2) r.eu nl,r.old,r.uK,
  mI (P:=fun p=>C.h₀.get? p.1=none/\C.h₀.get? p.2=none) r.lo lo,mI (P:=fun p=>(∃o,Ω.h.get? p.1=some o)/\∃o,Ω.h.get? p.2=some o) r.hi hi,r.toks⟩
 .clear hi own nl lo;rcases Nat.lt_trichotomy i Ω.n with q|q|q
  .rw [aJ (r.n▸q)] at e;show gz C _ (gQ Ω.ρ Ω.n p i).1 (gQ Ω.ρ Ω.n p i).2 o';exact eL (fA q) ((r.ob i o' e).mono .add (fun _ e=>e) fun _ e=>e)
  .subst q;rw [<-r.n,aI (ah _),sub_self] at e;clear r;(injection e with b;subst b);show gz C _ (gQ Ω.ρ Ω.n p Ω.n).1 (gQ Ω.ρ Ω.n p Ω.n).2 o;exact eL hY ho
  .rw [aT (by exact eL aa (eL r.n q))] at e;cases e
 .show iU (gQ Ω.ρ Ω.n p i) (gQ Ω.ρ Ω.n p j);clear nl lo;rcases lt_or_eq_of_le (le_of_lt_succ hi) with q|q
  .clear hi;rcases lt_or_eq_of_le (le_of_lt_succ a) with z|z
   .exact eL (fA q) (eL (fA z) (r.inj i j q z ne))
   .clear hi a ne r;subst z;exact eL (fA q) (eL hY (own i q))
  .clear hi r;subst q;clear hi;rcases lt_or_eq_of_le (le_of_lt_succ a) with z|z
   .refine eL (fA z) (eL hY ?_);have y:=own j z;exact⟨y.1.symm,y.2.2.1.symm,y.2.1.symm,y.2.2.2.symm⟩
   .exact absurd z.symm ne
structure dq(C:Ctx)(L:Nat)(Ω:Om)(a:Nat):Prop where
 eu:L≠a
 lo:C.h₀.get? a=none
 own:∀i,i<Ω.n->(Ω.ρ i).1≠a/\(Ω.ρ i).2≠a
 ob:∃o,Ω.h.get? a=some o/\gL o=false
theorem Rel.uN(r:Rel C L Ω σ)(b:Ω.h.get? a=none)(e:d.get? a=some o)(c:gL o=false):dq C L (Ω.mv d t) a:=
 ⟨r.lM.elim fun _ x=>bX x b,(match q:C.h₀.get? a with|none=>rfl|some o=>nomatch b.symm.trans (r.old a o q)),fun i hi=>⟨(r.hi i hi).1.elim fun _ x=>bX x b,(r.hi i hi).2.elim fun _ x=>bX x b⟩,o,e,c⟩
theorem W.add{dX:Om}(w:W L dX Ω)(c:dX.h.get? p.1=none)(d:dX.h.get? p.2=none):W L dX (Ω.add p):=
 ⟨ag w.le (aE _),fun i hi=>(fA (aS hi w.le)).trans (w.same i hi),fun i a b=>(lt_or_eq_of_le (le_of_lt_succ b)).elim
  (fun q=>by show _=_/\dX.h.get? (gQ Ω.ρ Ω.n p i).2=none;exact eL (show(Ω.add p).ρ i=_ from fA q) (eL (fA q) (w.fresh i a q)))
  fun q=>by subst q;show dX.h.get? (gQ Ω.ρ Ω.n p Ω.n).1=none/\dX.h.get? (gQ Ω.ρ Ω.n p Ω.n).2=none;exact eL hY (⟨c,d⟩),w.alive,w.keep,w.ru,w.sm⟩
theorem Rel.alloc(r:Rel C L Ω σ){a:Nat}{o:AO}{t:Nat}(j:Ω.s.toks<=t)(k:∀b o,Ω.h.get? b=some o->f.get? b=some o)(e:Ω.h.get? a=none)(hd:Ω.h.get? d=none)(u:∃o,f.get? a=some o)(m:∃o,f.get? d=some o)
  (ho:∀cb,W L Ω cb->cb.h=f->gz C cb a d o):
  W L Ω ((Ω.mv f t).add (a,d))/\Rel C L ((Ω.mv f t).add (a,d)) { σ with obj:=σ.obj++[o] }:=
 have back:∀c,Ω.h.get? c=none->C.h₀.get? c=none:=fun c p=>match q:C.h₀.get? c with
  |none=>rfl
  |some o=>nomatch p.symm.trans (r.old c o q)
 have w:=(W.grown j k).add e hd
 ⟨w,(r.grown j k).add (fun i hi=>by
  refine bY (r.hi i hi) fun n v=>(cN n fun z g=>(cN v fun y l=>?_))
  exact⟨bX g e,bX g hd,bX l e,bX l hd⟩) (r.lM.elim fun o x=>⟨bX x e,bX x hd⟩) ⟨back _ e,back _ hd⟩ ⟨u,m⟩ (ho _ w rfl)⟩
theorem rB(r:gz C Ω a d o):(∀ob,Ω.h.get? a=some ob->gL ob=false)/\((∃c as,o=.inst c as)->∀ob,Ω.h.get? d=some ob->gL ob=false):=by
 rcases o with xs|es|⟨C,as⟩|⟨o,xs⟩|⟨xs,k,zs⟩
 .refine eF r fun i k e _=>?_;exact⟨fun ob q=>by(injection (q.symm.trans e) with b;subst b);rfl,fun ⟨_,_,q⟩=>AO.noConfusion q⟩
 .exact bW r fun s f _=>(jQ f fun o' p t e g hd _=>⟨fun ob q=>by(injection (q.symm.trans e) with b;subst b);unfold gL;exact eL (hd ..) rfl,fun ⟨_,_,q⟩=>AO.noConfusion q⟩)
 ·(refine fq r fun _ e f=>?_;refine eF f fun m k j _=>?_);exact⟨fun ob q=>by(injection (q.symm.trans e) with b;subst b);rfl,fun _ ob q=>by(injection (q.symm.trans j) with b;subst b);rfl⟩
 ·(refine bY r fun e f=>?_;refine bW f fun i l _=>?_;obtain⟨g,n,hd⟩:=l);exact⟨fun ob q=>by(injection (q.symm.trans e) with b;subst b);unfold gL;refine eL (hd ..) (eL g ?_);rfl,fun ⟨_,_,q⟩=>AO.noConfusion q⟩
 .refine eF r fun i n e _=>?_;exact⟨fun ob q=>by(injection (q.symm.trans e) with b;subst b);rfl,fun ⟨_,_,q⟩=>AO.noConfusion q⟩
theorem Rel.upd(r:Rel C L Ω σ){o o':AO}(hi:σ.obj[i]?=some o){b:Nat}(hb:b=(Ω.ρ i).1\/b=(Ω.ρ i).2/\∃c as,o=.inst c as)(g:Ω.s.toks<=t)(l:Heap.SameBut b Ω.h a)(m:∃o,a.get? b=some o)
  (ho:∀cb,W L Ω cb->cb.h=a->gz C cb (Ω.ρ i).1 (Ω.ρ i).2 o'):
  W L Ω (Ω.mv a t)/\Rel C L (Ω.mv a t) { σ with obj:=σ.obj.set i o' }:=by
 have d:=r.lt hi;have f:=hb.imp id And.left;have w:W L Ω (Ω.mv a t):=W.one g (fun x ne o e=>(l.2 x ne).trans e) m (.inr ⟨i,d,f⟩) fun o e=>hb.elim (fun q=>(rB (r.ob i _ hi)).1 o (q▸e)) fun q=>(rB (r.ob i _ hi)).2 q.2 o (q.1▸e)
 have k:∀ {x},x≠b->∀ob,Ω.h.get? x=some ob->a.get? x=some ob:=fun ne ob q=>(l.2 _ ne).trans q
 have nb:∀j,j<Ω.n->j≠i->(Ω.ρ j).1≠b/\(Ω.ρ j).2≠b:=fun j u ne=>by
  have:=r.inj j i u d ne;rcases f with q|q
  .exact eL q (⟨this.1,this.2.2.1⟩)
  .exact eL q (⟨this.2.1,this.2.2.2⟩)
 refine⟨w,eL bH r.n,r.fr.mono w.mo (k (f.elim (fun q=>q▸(r.eu i d).1) fun q=>q▸(r.eu i d).2)),fun j v e=>?_,r.inj,r.eu,fun b o e=>r.sJ w e,r.uK,r.lo,fun i hi=>⟨(r.hi i hi).1.elim fun o=>w.alive _ o,(r.hi i hi).2.elim fun o=>w.alive _ o⟩,bC (aS (pos_of_ne_zero r.toks) g)⟩;rw [List.getElem?_set] at e;by_cases q:i=j
 .subst q;rw [if_pos rfl,if_pos (r.n▸d)] at e
  (injection e with p;subst p)
  exact ho _ w rfl
 .rw [if_neg q] at e;have:=nb j (r.lt e) (Ne.symm q);exact(r.ob j v e).mono w.mo (k this.1) (k this.2)
end
def OP(o:Option α)(P:α->Prop):Prop:=match o with
 |some a=>P a
 |none=>True
section
variable{α β:Type}{o:Option α}{P P':α->Prop}
theorem OP.of(h:OP o P)(e:o=some a):P a:=by subst e;exact h
theorem OP.intro(h:∀a,o=some a->P a):OP o P:=by
 rcases o with⟨⟩
 .trivial
 .exact h _ rfl
theorem OP.mono(h:OP o P)(k:∀a,P a->P' a):OP o P':=by
 rcases o with⟨⟩
 .trivial
 .exact k _ h
theorem OP.bind(h:OP o fun a=>OP (f a) Q):OP (o.bind f) Q:=by
 rcases o with⟨⟩
 .trivial
 .exact h
theorem OP.map{f:α->β}{Q:β->Prop}(h:OP o fun a=>Q (f a)):OP (o.map f) Q:=by
 rcases o with⟨⟩
 .trivial
 .exact h
theorem OP.bif(h:c=true->OP o P):OP (bif c then o else none) P:=by
 rcases c with⟨⟩
 .trivial
 .exact h rfl
noncomputable def dg{β a:Type}(o:Option β)(f:β->a)(g:a):a:=match o with
 |some b=>f b
 |none=>g
theorem OP.dg(h:∀x,b=some x->OP (f x) P)(k:OP o P):OP (dg b f o) P:=by
 rcases b with⟨⟩
 .exact k
 .exact h _ rfl
end
abbrev no:Value->Shared->Prop:=fun _ _=>False
structure ve(env:Env)(sc:Scope)(L:Nat):Prop where
 scope:env.scope=sc
 kind:sc.kind=.function
 loc:env.locals=L
 gl:env.globals=mainGlobals
 bl:env.builtins=builtinsNs
structure oL(A:Around)(d:Nat):Prop where
 depth:A.depth+2*d<=990
 units:A.units+30*d<=9000
 handled:A.handled=none
structure Hr(C:Ctx)(F:Fm)(Ω:Om)(σ:St):Prop where
 rel:Rel C F.L Ω σ
 room:oL F.A σ.dep
 env:ve F.env σ.sc F.L
abbrev Rl(β α:Type):=Om->β->α->Prop
def cW(C:Ctx)(F:Fm)(Ω:Om)(c:St)(Q:Rl β α)(b:β)(a:α)(s':Shared):Prop:=
 ∃cb,W F.L Ω cb/\Hr C F cb c/\Q cb b a/\cb.s=s'
def Sm(C:Ctx)(F:Fm)(Ω:Om)(m:Sem α)(i:I β)(Q:Rl β α):Prop:=
 ∀a,W F.L Ω a->∀σ,Hr C F a σ->OP (i σ) fun p=>wpAny C.M F.A m (cW C F a p.2 Q p.1) no a.s
noncomputable abbrev QV(C:Ctx):Rl AV Value:=fun Ω a v=>VR C Ω a v
noncomputable abbrev Kn(C:Ctx):Rl (List AV) (List Value):=fun Ω a v=>de C Ω a v
noncomputable abbrev QB:Rl Bool Bool:=fun _ b c=>b=c
noncomputable abbrev QU:Rl Unit Unit:=fun _ _ _=>True
inductive mX(C:Ctx)(Ω:Om):Fl->Flow->Prop
 |next:mX C Ω .next .next
 |brk:mX C Ω .brk .brk
 |cont:mX C Ω .cont .cont
 |ret (a:AV) (v:Value) (q:VR C Ω a v):mX C Ω (.ret a) (.ret v)
theorem mX.el{G:Flow->Prop}(q:mX C Ω a f):(a=.next->G .next->G f)/\(a=.brk->G .brk->G f)/\(a=.cont->G .cont->G f):=by
 induction q with
 |next=>exact⟨fun _ k=>k,fun e=>Fl.noConfusion e,fun e=>Fl.noConfusion e⟩
 |brk=>exact⟨fun e=>Fl.noConfusion e,fun _ k=>k,fun e=>Fl.noConfusion e⟩
 |cont=>exact⟨fun e=>Fl.noConfusion e,fun e=>Fl.noConfusion e,fun _ k=>k⟩
 |ret=>exact⟨fun e=>Fl.noConfusion e,fun e=>Fl.noConfusion e,fun e=>Fl.noConfusion e⟩
@[elab_as_elim] theorem mX.jk{G:Flow->Prop}(q:mX C Ω .next f)(k:G .next):G f:=q.el.1 rfl k
@[elab_as_elim] theorem mX.brkE{C:Ctx}{Ω:Om}{f:Flow}{G:Flow->Prop}(q:mX C Ω .brk f)(k:G .brk):G f:=q.el.2.1 rfl k
@[elab_as_elim] theorem mX.wg{C:Ctx}{Ω:Om}{f:Flow}{G:Flow->Prop}(q:mX C Ω .cont f)(k:G .cont):G f:=q.el.2.2 rfl k
theorem mX.Yw{C:Ctx}{Ω:Om}{G:Flow->Prop}{f:Flow}{x:Fl}(q:mX C Ω x f):∀a,x=.ret a->(∀u,VR C Ω a u->G (.ret u))->G f:=by
 induction q with
 |ret a v q=>exact fun b e k=>k v (by injection e with e;exact e▸q)
 |_=>exact fun b e=>Fl.noConfusion e
@[elab_as_elim] theorem mX.Yt{G:Flow->Prop}(q:mX C Ω (.ret a) f)(k:∀u,VR C Ω a u->G (.ret u)):G f:=q.Yw a rfl k
noncomputable abbrev QF(C:Ctx):Rl Fl Flow:=fun Ω f fl=>mX C Ω f fl
section
variable{C:Ctx}{F:Fm}{Ω cb cj:Om}{α β γ δ:Type}{m:Sem α}{i:I β}{Q:Rl β α}{σ τ:St}
theorem wp_mono(h:wpAny M A m P no s)(k:∀a s',P a s'->b a s'):wpAny M A m b no s:=bu h k fun _ _ x=>x
theorem nu(h:wpAny M A m (cW C F Ω τ Q b) no s)(k:∀cb a,W F.L Ω cb->Hr C F cb τ->Q cb b a->Y a cb.s):wpAny M A m Y E s:=
 bu h (fun a s' z=>by
  refine dW z fun cb w H q e=>?_;clear z h;subst e
  exact k cb a w H q) fun _ _ x=>x.elim
theorem cW.in(w:W F.L Ω cb)(H:Hr C F cb τ)(q:Q cb b a):cW C F Ω τ Q b a cb.s:=⟨cb,w,H,q,rfl⟩
theorem cW.now(H:Hr C F Ω σ)(c:Ω.s.toks<=t)(q:Q (Ω.mv Ω.h t) b a):cW C F Ω σ Q b a (gy Ω.s Ω.h t):=
 ⟨_,W.grown c fun _ _ e=>e,⟨H.rel.grown c fun _ _ e=>e,H.room,H.env⟩,q,rfl⟩
theorem cW.fF(H:Hr C F Ω σ)(q:Q Ω b a):cW C F Ω σ Q b a Ω.s:=⟨Ω,.refl,H,q,rfl⟩
theorem cW.grown(H:Hr C F Ω σ)(c:Ω.s.toks<=t)(k:∀b o,Ω.h.get? b=some o->d.get? b=some o)(q:W F.L Ω (Ω.mv d t)->Q (Ω.mv d t) b a):cW C F Ω σ Q b a (gy Ω.s d t):=
 ⟨_,W.grown c k,⟨H.rel.grown c k,H.room,H.env⟩,q (W.grown c k),rfl⟩
theorem cW.new(H:Hr C F Ω σ)(f:Ω.s.toks<=t)(k:∀b o,Ω.h.get? b=some o->c.get? b=some o)(e:Ω.h.get? x=none)(hd:Ω.h.get? d=none)(j:∃o,c.get? x=some o)(g:∃o,c.get? d=some o)
  (ho:∀cb,W F.L Ω cb->cb.h=c->gz C cb x d o) (q:∀cb,W F.L Ω cb->VR C cb (.obj σ.obj.length) (.ref x)->Q cb b a):cW C F Ω { σ with obj:=σ.obj++[o] } Q b a (gy Ω.s c t):=by
 refine bY (H.rel.alloc f k e hd j g ho) fun w r=>?_;have v:VR C ⟨gQ Ω.ρ Ω.n (x,d),Ω.n+1,gy Ω.s c t⟩ (.obj σ.obj.length) (.ref ((gQ Ω.ρ Ω.n (x,d) σ.obj.length).1)):=.obj _ (H.rel.n▸bF _)
 rw [H.rel.n,hY] at v;exact .in w ⟨r,H.room,H.env⟩ (q _ w (H.rel.n▸v))
theorem cW.upd(H:Hr C F Ω σ)(hi:σ.obj[j]?=some o)(hb:x=(Ω.ρ j).1\/x=(Ω.ρ j).2/\∃c as,o=.inst c as)(e:Ω.s.toks<=t)(f:Heap.SameBut x Ω.h d)(g:∃o,d.get? x=some o)
  (ho:∀cb,W F.L Ω cb->cb.h=d->gz C cb (Ω.ρ j).1 (Ω.ρ j).2 o') (q:W F.L Ω (Ω.mv d t)->Q (Ω.mv d t) b a):cW C F Ω { σ with obj:=σ.obj.set j o' } Q b a (gy Ω.s d t):=by
 exact bY (H.rel.upd hi hb e f g ho) fun w r=>(.in w ⟨r,H.room,H.env⟩ (q w))
theorem cW.from(w:W F.L Ω cb)(p:cW C F cb τ Q b a s):cW C F Ω τ Q b a s:=by
 exact bW p fun cj c r=>⟨cj,w.trans c,r⟩
theorem Sm.none:Sm C F Ω m (eB) Q:=fun _ _ _ _=>trivial
theorem Sm.pure(q:∀cj,W F.L Ω cj->Q cj b a):Sm C F Ω (pure a) (ret b) Q:=fun cj l _ H=>aL (cW.fF H (q cj l))
theorem Sm.seq{c:Sem γ}{k:α->Sem γ}{f:β->I δ}(rule:∀Z s,wpAny C.M F.A m (fun a s₁=>wpAny C.M F.A (k a) Z no s₁) no s->wpAny C.M F.A c Z no s)(n:Sm C F Ω m i Q)
  (t:∀cb,W F.L Ω cb->∀b a,Q cb b a->Sm C F cb (k a) (f b) o):Sm C F Ω c (cv i f) o:=fun cj l σ H=>
 .bind ((n cj l σ H).mono fun p h=>.intro fun r e=>rule _ _ (wp_mono h fun a s' q=>by
  obtain⟨d,g,j,q,rfl⟩:=q;exact wp_mono ((t d (l.trans g) p.1 a q d .refl p.2 j).of e) fun _ _ p=>p.from g))
theorem Sm.bind(e:Sm C F Ω m i Q)(d:∀cb,W F.L Ω cb->∀b a,Q cb b a->Sm C F cb (k a) (f b) c):Sm C F Ω (m>>=k) (cv i f) c:=.seq (fun _ _=>ai) e d
theorem Sm.HW{c:Sem γ}{a:Rl β γ}(h:Sm C F Ω m i Q)(k:∀cj σ b,W F.L Ω cj->Hr C F cj σ->∀τ,wpAny C.M F.A m (cW C F cj τ Q b) no cj.s->wpAny C.M F.A c (cW C F cj τ a b) no cj.s):Sm C F Ω c i a:=fun cj l σ H=>(h cj l σ H).mono fun p h=>k cj σ p.1 l H p.2 h
theorem Sm.holding{a:List Value}(h:Sm C F Ω m i Q):Sm C F Ω (holding a m) i Q:=h.HW fun _ _ _ _ _ _=>bK
theorem Sm.dA{p:Pos}{k:Unit->Sem α}(h:Sm C F Ω (k ()) i Q):Sm C F Ω (standAt p>>=k) i Q:=h.HW fun _ _ _ _ _ _ h=>ai (wpAny_standAt h)
theorem Sm.ite{c d:Bool}{b:Sem α}{a:I β}(e:c=d)(x:Sm C F Ω m i Q)(y:Sm C F Ω b a Q):Sm C F Ω (if d=true then m else b) (cond c i a) Q:=by
 subst e;rcases c with⟨⟩
 .exact y
 .exact x
def gd(c:Bool)(i:I β):I β:=cond c i eB
theorem Sm.gd{c:Bool}(x:c=true->Sm C F Ω m i Q):Sm C F Ω m (gd c i) Q:=by
 rcases c with⟨⟩
 .exact .none
 .exact x rfl
def opt(o:Option β)(f:β->I δ):I δ:=match o with
 |some b=>f b
 |none=>eB
theorem Sm.opt{o:Option δ}{f:δ->I β}(x:∀b,o=some b->Sm C F Ω m (f b) Q):Sm C F Ω m (opt o f) Q:=by
 rcases o with⟨⟩
 .exact .none
 .exact x _ rfl
theorem Sm.rd{f:St->Option β}(x:∀cj,W F.L Ω cj->∀σ,Hr C F cj σ->OP (f σ) fun b=>wpAny C.M F.A m (cW C F cj σ Q b) no cj.s):Sm C F Ω m (rd f) Q:=fun cj l σ H=>.map (x cj l σ H)
end
def Lw(M:Model)(A:Around)(s:Shared)(m:Sem Value)(r:bQ):Prop:=∀P,(∀v t,s.toks<=t->LR r v->P v (gy s s.heap t))->wpAny M A m P no s
theorem cA(h:n<=big):n<=sizeLine:=ag h (by decide)
theorem qm(h:n<=sizeLine):¬(n:Int)>=2^63:=Int.not_le.mpr (Vv (ag h (ag (Nat.le_of_eq sizeLine_eq) (by decide))))
theorem cX{G:Prop}(e:none=some r):G:=nomatch e
theorem UW:SN (x::xs) (y::ys)=if x<y then true else if y<x then false else SN xs ys:=rfl
theorem xS:∀a b,SN a b=decide (a<b):=by
 intro a;induction a with
 |nil=>
  intro b;rcases b with _|⟨y,ys⟩
  .rfl
  .exact (bo (List.nil_lt_cons _ _)).symm
 |cons x xs c=>
  intro b;rcases b with _|⟨y,ys⟩
  .rfl
  refine eL UW (eL (c ys) ?_);by_cases h:x<y
  .exact eL (if_pos h) (eL (bo (List.cons_lt_cons_iff.mpr (.inl h))) rfl)
  .refine eL (if_neg h) ?_;by_cases k:y<x
   .exact eL (if_pos k) ((bx fun z=>(List.cons_lt_cons_iff.mp z).elim h fun q=>bC k q.1).symm)
   .refine eL (if_neg k) ?_;obtain rfl:=Nat.le_antisymm (le_of_not_lt k) (le_of_not_lt h);exact decide_eq_decide.mpr ⟨fun z=>List.cons_lt_cons_iff.mpr (.inr ⟨rfl,z⟩),fun z=>(List.cons_lt_cons_iff.mp z).elim (fun q=>absurd q h) And.right⟩
section
theorem eM(P:Option bQ->Value->Value->Prop)(e:LR x v)(d:LR y u)(n:∀v u,P none v u)(f:∀a t b c,P (Vd o a b) (.int a t) (.int b c))
  (i:∀a t b c,t≠0->c≠0->P (Vf o a b) (.str a t) (.str b c)) (h:∀a t b c,P (Tw o a b) (.str a t) (.int b c)):P (rC o x y) v u:=by
 induction e with
 |int a t=>
  induction d with
  |int b c=>exact f a t b c
  |_=>exact n _ _
 |str a t _ z=>
  induction d with
  |int b c=>exact h a t b c
  |str b c _ g=>exact i a t b c z g
  |_=>exact n _ _
 |_=>exact n _ _
noncomputable def xJ:Operator->Op
 |.Add=>.add
 |.Sub=>.sub
 |.FloorDiv=>.fdiv
 |.Mod=>.fmod
 |_=>.truth
theorem Fx{x y:Str}{u:Tok}(d:t≠0)(f:u≠0)(e:s.toks≠0):OP (fN (x++y)) fun r=>∀Z,(∀v t,s.toks<=t->LR r v->Z v (gy s s.heap t))->
  (if x.length==0 then Made.val (.str y u) else if y.length==0 then Made.val (.str x t) else Made.str (x++y)).post Z s:=.bif fun a Z h=>by
 have a:=cA (ax a);by_cases b:(x.length==0)=true
 .refine eL (if_pos b) ?_;rw [Str.append_left_empty b] at h a;exact h _ _ (ah _) (.str y u a f)
 .refine eL (if_neg b) ?_;by_cases c:(y.length==0)=true
  .refine eL (if_pos c) ?_;rw [Str.append_right_empty c] at h a;exact h _ _ (ah _) (.str x t a d)
  .exact eL (if_neg c) (⟨a,h _ _ (aE _) (.str _ _ a e)⟩)
theorem Ez(c:s.toks≠0)(op:Operator)(e:LR x v)(f:LR y u):OP (rC (xJ op) x y) (Lw (model prog w) A s (binaryOp op v u)):=by
 refine eM (fun r v u=>OP r (Lw (model prog w) A s (binaryOp op v u))) e f (fun _ _=>trivial) (fun a t b g=>?_) (fun a t b g z d=>?_) (fun _ _ _ _=>?_)
 .induction op with
  |Add=>exact fun Z h=>add_int (h _ _ (aE _) (.int _ _))
  |Sub=>exact fun Z h=>sub_int (h _ _ (aE _) (.int _ _))
  |FloorDiv=>exact .bif fun q Z h=>floordiv_int (Int.ne_of_gt (ax (ab.mp q).1)) (h _ _ (aE _) (.int _ _)) (.inl (PyProof.noPylong_small (by have:=ax (ab.mp q).2;have:=ax (ab.mp q).1;omega)))
  |Mod=>exact .bif fun q Z h=>PyProof.Rows.mod_int (Int.ne_of_gt (ax q)) (h _ _ (aE _) (.int _ _))
  |_=>trivial
 .induction op with
  |Add=>exact(Fx z d c).mono fun r h Z k=>P.add_str (h Z k)
  |_=>trivial
 .rcases op with⟨⟩<;>trivial
theorem OY(c:s.toks≠0)(op:Operator)(e:op=.Add\/op=.Sub)(f:LR x v)(g:LR y u):OP (rC (xJ op) x y) (Lw (model prog w) A s (inplaceOp op v u)):=by
 refine eM (fun r v u=>OP r (Lw (model prog w) A s (inplaceOp op v u))) f g (fun _ _=>trivial) (fun a t b i=>?_) (fun a t b i z d=>?_) (fun _ _ _ _=>?_)<;>rcases e with rfl|rfl
 .exact fun Z h=>P.iadd_int (h _ _ (aE _) (.int _ _))
 .exact fun Z h=>P.isub_int (h _ _ (aE _) (.int _ _))
 .exact (Fx z d c).mono fun r h Z k=>P.iadd_str (h Z k)
 all_goals trivial
theorem Fq(d:s.toks≠0)(b:LR x v)(f:LR y u):OP (rC .idx x y) (Lw (model prog w) A s (getItem v u)):=
 eM (fun r v u=>OP r (Lw (model prog w) A s (getItem v u))) b f (fun _ _=>trivial) (fun _ _ _ _=>trivial) (fun _ _ _ _ _ _=>trivial) fun a t k g=>
  .bif fun q=>.map (.intro fun c e Z h=>P.getItem_str ((bM _).mp q) e (h _ _ (aE _) (.str ⟨#[c]⟩ _ (by show 1<=_;decide) d)))
theorem WG(a:LR x v)(b:LR y u):OP (rC .lt x y) (Lw (model prog w) A s (compareOp .Lt v u)):=
 eM (fun r v u=>OP r (Lw (model prog w) A s (compareOp .Lt v u))) a b (fun _ _=>trivial) (fun _ _ _ _ _ h=>lt_int (h _ _ (ah _) (.bool _))) (fun _ _ _ _ _ _ _ h=>P.lt_str (xS _ _▸h _ _ (ah _) (.bool _))) fun _ _ _ _=>trivial
theorem Vj(a:LR x v)(b:LR y u):OP (rC .le x y) (Lw (model prog w) A s (compareOp .LtE v u)):=
 eM (fun r v u=>OP r (Lw (model prog w) A s (compareOp .LtE v u))) a b (fun _ _=>trivial) (fun _ _ _ _ _ h=>le_int (h _ _ (ah _) (.bool _))) (fun _ _ _ _ _ _ _ h=>P.le_str (xS _ _▸h _ _ (ah _) (.bool _))) fun _ _ _ _=>trivial
theorem Uz(a:LR x v)(b:LR y u):OP (rC .lt y x) (Lw (model prog w) A s (compareOp .Gt v u)):=
 eM (fun r u v=>OP r (Lw (model prog w) A s (compareOp .Gt v u))) b a (fun _ _=>trivial) (fun _ _ _ _ _ h=>gt_int (h _ _ (ah _) (.bool _))) (fun _ _ _ _ _ _ _ h=>P.gt_str (xS _ _▸h _ _ (ah _) (.bool _))) fun _ _ _ _=>trivial
theorem Vg(a:LR x v)(b:LR y u):OP (rC .ge x y) (Lw (model prog w) A s (compareOp .GtE v u)):=
 eM (fun r v u=>OP r (Lw (model prog w) A s (compareOp .GtE v u))) a b (fun _ _=>trivial) (fun _ _ _ _ _ h=>ge_int (h _ _ (ah _) (.bool _))) (fun _ _ _ _ _ _=>trivial) fun _ _ _ _=>trivial
theorem QH(a:LR x v)(c:LR y u)(n:Bool):OP (ff (rC .Na x y)) fun b=>∀Z:Value->Shared->Prop,Z (.bool (cond n (!b) b)) s->wpAny (model prog w) A (compareOp (bif n then .NotIn else .In) v u) Z no s:=
 eM (fun r v u=>OP (ff r) fun b=>∀Z:Value->Shared->Prop,Z (.bool (cond n (!b) b)) s->wpAny (model prog w) A (compareOp (bif n then .NotIn else .In) v u) Z no s) a c (fun _ _=>trivial) (fun _ _ _ _=>trivial)
  (fun _ _ _ _ _ _ _ h=>by rcases n with⟨⟩;exact P.in_str h;exact P.notIn_str h) fun _ _ _ _=>trivial
theorem vI(a:LR x v):OP (ff (zR .truth x)) fun b=>∀Z:Bool->Shared->Prop,(∀t,s.toks<=t->Z b (gy s s.heap t))->wpAny (model prog w) A (truthy v) Z no s:=by
 induction a with
 |none=>exact fun Z h=>truthy_none (h _ (ah _))
 |bool=>exact fun Z h=>wpAny_truthy_bool (h _ (ah _))
 |int=>exact fun Z h=>truthy_int (h _ (ah _))
 |str x t l _=>exact fun Z h=>P.truthy_str (qm l) (h _ (ag (aE _) (aE _)))
theorem Fj(a:LR x v):OP (zR .len x) (Lw (model prog w) A s (call (.builtin "len") [v])):=by
 induction a with
 |str x t l _=>exact fun Z h=>P.len_str (qm l) (h _ _ (ag (aE _) (aE _)) (.int _ _))
 |_=>trivial
theorem Ht(a:LR x v):OP (zR .ord x) (Lw (model prog w) A s (call (.builtin "ord") [v])):=by
 induction a with
 |str x t l _=>
  clear l;obtain⟨⟨xs⟩⟩:=x;rcases xs with _|⟨c,xs⟩
  .trivial
  .induction xs with
   |nil=>exact fun Z h=>P.ord_of_char (h _ _ (aE _) (.int _ _))
   |cons=>trivial
 |_=>trivial
theorem Dk(b:s.toks≠0)(a:LR x v):OP (zR .chr x) (Lw (model prog w) A s (call (.builtin "chr") [v])):=by
 induction a with
 |int i t=>exact .bif fun q Z h=>P.chr_of_int ((bM _).mp q) (h _ _ (aE _) (.str ⟨#[_]⟩ _ (by show 1<=_;decide) b))
 |_=>trivial
theorem Bs(a:LR x v)(b:LR y u):OP (rC .starts x y) (Lw (model prog w) A s (call (.builtin "str.startswith") [v,u])):=
 eM (fun r v u=>OP r (Lw (model prog w) A s (call (.builtin "str.startswith") [v,u]))) a b (fun _ _=>trivial) (fun _ _ _ _=>trivial) (fun _ _ _ _ _ _ _ h=>SC.startswith (h _ _ (ah _) (.bool _))) fun _ _ _ _=>trivial
end
noncomputable def sU:List (Str×Value):=[("len",.builtin "len"),("ord",.builtin "ord"),("chr",.builtin "chr"),("sum",.builtin "sum"),("isinstance",.builtin "isinstance"),
 ("int",.type "int"),("str",.type "str"),("bool",.type "bool"),("dict",.type "dict"),("range",.type "range"),("enumerate",.type "enumerate")]
def tm(K:Frag)(x:Str):Option AV:=(nsIn K mainGlobals x).bind fun o=>dg o (kZ K) ((sU.lookup x).map .top)
def kindAt(K:Frag)(x:Str)(σ:St):NameKind->Option AV
 |.local=>σ.loc.lookup x
 |.globalImplicit=>tm K x
 |_=>none
def nameOf(K:Frag)(x:Str)(σ:St):Option AV:=bif !(x=="__debug__") then(σ.sc.names.lookup x).bind (kindAt K x σ) else none
def constOf:Const->Option bQ
 |.none=>some .none
 |.bool b=>some (.bool b)
 |.int i=>some (.int i)
 |.str s=>fN s
 |_=>none
structure IntTab(K:Frag)(h₀:Heap)(prog:Program)(w:World)(t:Addr)(es:List (Int×AV))(dM:List (Int×Value)):Prop where
 sys:(t==sysModules)=false
 dict:h₀.DictOf (intKind prog w) t dM
 NX:∀k,(valueAt dM k).isSome=(es.lookup k).isSome
 at_:∀k av,es.lookup k=some av->∃v,valueAt dM k=some v/\kZ K v=some av
structure Good(C:Ctx):Prop where
 lI:C.K.In C.h₀
 lim:C.h₀.NoLimit
 nb:NoneBooked C.h₀
 sys:∃o,C.h₀.get? sysModules=some o
 bn:∃mb,C.h₀.Ns builtinsNs mb/\∀x v,sU.lookup x=some v->mb x=some v
 tab:∀t es,cM C.K t=.jR es->∃dM,IntTab C.K C.h₀ C.prog C.w t es dM
 facts:∀f∈C.Φ,ew f.op (f.args.map C.cn)=some (C.cn f.res)
section
variable{C:Ctx}
theorem gI:∀ {x y:bQ},x.yL y=true->x=y:=fun {x y}=>by
 rcases x with⟨⟩<;>rcases y with⟨⟩<;>first
  |(intro h;exact noConfusion h)
  |(intro _;rfl)
  |(intro h;exact az _ (ax h))
  |(intro h;exact az bQ.str (az Str.mk (Array.toList_inj.mp (aC.mp h))))
  |(intro h;exact az _ (aC.mp h))
theorem AS:∀ {xs ys:List bQ},bQ.Sg xs ys=true->xs=ys
 |[],[],_=>rfl
 |[],_::_,h=>noConfusion h
 |_::_,[],h=>noConfusion h
 |x::xs,y::ys,h=>by
  have h:=ab.mp h;exact eL (gI h.1 ..) (eL (AS h.2) rfl)
theorem FL(h:isLit x=true):C.cn x=x:=by rcases x with⟨⟩<;>first|rfl|exact(aA h).elim
theorem II:∀ {xs:List bQ},xs.all isLit=true->xs.map C.cn=xs:=by
 intro xs;induction xs with
 |nil=>
  intro _;exact rfl
 |cons x xs a=>
  intro h;have h:=ab.mp h;exact eL map_cons (eL (FL h.1) (eL (a h.2) rfl))
theorem LR.cn(h:LR r v):LR (C.cn r) v:=by induction h<;>constructor<;>assumption
theorem ju(G:Good C)(e:kH C.Φ o xs=some r):∃a,ew o (xs.map C.cn)=some a/\(∀v,LR a v->LR (C.cn r) v)/\∀b,r=.bool b->a=.bool b:=by
 unfold kH at e;rcases h:xs.all isLit with _|_
 .rw [h,if_neg aA] at e;refine bW (aQ.mp e) fun f e1 e2=>?_
  have q:=List.find?_some e1;rw [aW] at q;refine⟨C.cn r,?_,fun _=>id,fun b z=>by refine eL z ?_;rfl⟩;exact eR (ax q.1) (eR (AS q.2) (eR e2 (G.facts f (List.mem_of_find?_eq_some e1))))
 .rw [h,if_pos rfl] at e;exact⟨r,by exact eL (II h) e,fun v=>LR.cn,fun _=>id⟩
theorem lG(e:ff o=some b):o=some (.bool b):=by
 rcases o with _|x
 .exact cX e
 .rcases x with⟨⟩<;>first|exact cX e|((injection e with a;subst a);rfl)
theorem jq(G:Good C)(h:OP (ff (ew o (xs.map C.cn))) P):OP (ff (kH C.Φ o xs)) P:=.intro fun b e=>by
 exact cS (ju G (lG e)) fun a e1 _ e2=>(h.of (by refine eL e1 (eL (e2 b rfl) ?_);rfl))
theorem VR.kZ(X:C.K.In C.h₀)(v):OP (kZ C.K v) fun a=>VR C Ω a v:=by
 induction v with
 |none=>exact .lf _ _ .none
 |bool b=>exact .lf _ _ (.bool b)
 |int i t=>exact .lf _ _ (.int i t)
 |str s t=>
  rcases t with _|t
  .trivial
  .exact .bif fun q=>.lf _ _ (.str s _ (cA (ax q)) (succ_ne_zero t))
 |ref a=>exact .map (.intro fun o q=>.top _)
 |type n=>exact .top _
 |builtin n=>exact .top _
 |_=>trivial
theorem de.nC(X:C.K.In C.h₀):∀a,OP (nC C.K a) fun xs=>de C Ω xs a:=by
 intro a;induction a with
 |nil=>
  exact .nil
 |cons v a b=>
  exact .bind ((VR.kZ X v).mono fun _ h=>.map ((b).mono fun _ k=>.cons h k))
theorem Hr.keep(H:Hr C F Ω σ):∀b o,C.h₀.get? b=some o->Ω.h.get? b=some o:=H.rel.old
theorem fC(G:Good C)(H:Hr C F Ω σ)(h:OP (ew o (xs.map C.cn)) (Lw C.M F.A Ω.s m)):OP (kH C.Φ o xs) fun r=>wpAny C.M F.A m (cW C F Ω σ (QV C) (.lf r)) no Ω.s:=.intro fun r e=>by
 exact cS (ju G e) fun b e1 e2 _=>(h.of e1 _ fun v _ a q=>.now H a (.lf _ _ (e2 v q)))
noncomputable def iB:AV->Option bQ
 |.lf x=>some x
 |_=>none
theorem VR.leaf(h:VR C Ω (.lf x) v):LR (C.cn x) v:=h.inv
theorem VR.fQ(h:VR C Ω (.obj i) v):v=.ref (Ω.ρ i).1:=h.inv
theorem zm(G:Good C)(H:Hr C F Ω σ)(b:F.env.kindOf x=some k)(kd:F.env.scope.kind=.function):OP (kindAt C.K x σ k) fun a=>wpAny C.M F.A (loadName F.env x) (cW C F Ω σ (QV C) a) no Ω.s:=by
 induction k with
 | «local»=>
  exact cS (H.rel.fr) fun m f a _=>(.intro fun av e=>(bW (a x _ e) fun v c d=>(wpAny_loadName_local kd b (H.env.loc▸f) c (.fF H d))))
 |globalImplicit=>
  refine eL (loadName_read kd b) ?_;unfold loadGlobal;refine eL H.env.gl (eL H.env.bl (.bind (.intro fun o hg=>?_)));rcases o with _|v
  .exact .map (.intro fun v h=>ai (looks_nsIn G.lI hg _ _ _ _ H.keep (bW (G.bn) fun mb hb g=>(ai (wpAny_nsGet (hb.keeps H.keep) (eL (g x v h) (aL (.fF H (.top v)))))))))
  .exact (VR.kZ G.lI v).mono fun a q=>ai (looks_nsIn G.lI hg _ _ _ _ H.keep (aL (.fF H q)))
 |_=>trivial
theorem JA(G:Good C)(x:Str)(pos:Pos):Sm C F Ω (eval (.Name x pos) F.env) (rd (nameOf C.K x)) (QV C):=
 .rd fun _ _ _ H=>.bif fun nd=>.bind (.intro fun _ a=>(zm G H (by unfold Env.kindOf;exact eL H.env.scope a) (H.env.scope▸H.env.kind)).mono fun _ h=>wpAny_Name h ((bM _).mp nd))
theorem ET(c)(k)(pos):Sm C F Ω (eval (.Constant c k pos) F.env) (Xe ((constOf c).map .lf)) (QV C):=fun _ _ σ H=>.map (.map (by
 induction c with
 |none=>exact wpAny_Constant_none (cW.fF H (.lf _ _ .none))
 |bool b=>exact wpAny_Constant_bool (cW.fF H (.lf _ _ (.bool b)))
 |int i=>exact wpAny_Constant_int (cW.now H (aE _) (.lf _ _ (.int i _)))
 |str s=>exact .bif fun q=>Calls.Constant_str (cW.now H (aE _) (.lf _ _ (.str s _ (cA (ax q)) H.rel.toks)))
 |_=>trivial))
end
noncomputable def listAt(σ:St)(i:Nat):Option (List AV):=match σ.obj[i]? with
 |some (.list xs)=>some xs
 |_=>none
noncomputable def dictAt(σ:St)(i:Nat):Option (List (Str×AV)):=match σ.obj[i]? with
 |some (.dict es)=>some es
 |_=>none
noncomputable def lH(σ:St)(i:Nat):Option (Addr×List (Str×AV)):=match σ.obj[i]? with
 |some (.inst c as)=>some (c,as)
 |_=>none
noncomputable def lF(σ:St)(i:Nat):Option (List AV×Nat×List AV):=match σ.obj[i]? with
 |some (.fK xs k zs)=>some (xs,k,zs)
 |_=>none
theorem jv(e:lF σ i=some (xs,k,zs)):σ.obj[i]?=some (.fK xs k zs):=by
 unfold lF at e;rcases h:σ.obj[i]? with _|o
 .rw [h] at e;exact cX e
 .rw [h] at e;rcases o with⟨⟩<;>first|exact cX e|(cases e;rfl)
theorem gB(e:listAt σ i=some xs):σ.obj[i]?=some (.list xs):=by
 unfold listAt at e;rcases h:σ.obj[i]? with _|o
 .rw [h] at e;exact cX e
 .rw [h] at e;rcases o with⟨⟩<;>first|exact cX e|((injection e with a;subst a);rfl)
theorem eD(e:dictAt σ i=some xs):σ.obj[i]?=some (.dict xs):=by
 unfold dictAt at e;rcases h:σ.obj[i]? with _|o
 .rw [h] at e;exact cX e
 .rw [h] at e;rcases o with⟨⟩<;>first|exact cX e|((injection e with a;subst a);rfl)
theorem kq(e:lH σ i=some (c,as)):σ.obj[i]?=some (.inst c as):=by
 unfold lH at e;rcases h:σ.obj[i]? with _|o
 .rw [h] at e;exact cX e
 .rw [h] at e;rcases o with⟨⟩<;>first|exact cX e|((injection e with a;injection a with a b;subst a;subst b);rfl)
section
variable{C:Ctx}{F:Fm}{Ω cj:Om}{σ:St}{v u:Value}
theorem de.size(r:de C Ω xs a):a.toArray.size=xs.length:=(size_toArray ..).trans r.len.symm
theorem de.isEmpty(r:de C Ω xs a):a.toArray.isEmpty=xs.isEmpty:=by
 unfold Array.isEmpty;refine eL r.size ?_;clear r;rcases xs with⟨⟩<;>rfl
theorem de.get{xs:List AV}{b:List Value}(r:de C Ω xs b){k:Nat}{a:AV}(e:xs[k]?=some a):∃v,b[k]?=some v/\VR C Ω a v:=
 have h:=r.len▸(au.mp e).1
 ⟨b[k],ao h,r.at_ k a _ e (ao h)⟩
theorem Hr.list(H:Hr C F Ω σ)(e:listAt σ i=some xs):∃a k,Ω.h.get? (Ω.ρ i).1=some (listOf a.toArray k)/\de C Ω xs a/\xs.length<=16777217:=H.rel.ob i _ (gB e)
theorem Hr.fK(H:Hr C F Ω σ)(e:lF σ i=some (xs,k,zs)):∃a n,Ω.h.get? (Ω.ρ i).1=some (listOf a.toArray n)/\de C Ω (xs++(kD (C.θ k)++zs)) a/\(xs++(kD (C.θ k)++zs)).length<=16777217:=H.rel.ob i _ (jv e)
theorem Hr.dict(H:Hr C F Ω σ)(e:dictAt σ i=some es):∃a,Ω.h.DictOf (strKind C.prog C.w) (Ω.ρ i).1 a/\fW C Ω es a/\es.length<=100:=H.rel.ob i _ (eD e)
theorem Hr.qh(G:Good C)(H:Hr C F Ω σ)(e:σ.obj[i]?=some o):((Ω.ρ i).1==sysModules)=false:=by
 exact cN (G.sys) fun o q=>(aN.mpr (bX q (H.rel.lo i (H.rel.lt e)).1).symm)
theorem Gq{n:Nat}(h:n<=16777217):(n:Int)<2^63:=by exact Vv h
theorem empty_eq{α β:Type}{xs:List α}{ys:List β}(h:xs.length=ys.length):xs.isEmpty=ys.isEmpty:=by rcases xs with⟨⟩<;>rcases ys with⟨⟩<;>first|rfl|exact nomatch h
def iO(Φ:List Fact)(σ:St):AV->Option Bool
 |.lf x=>ff (kH Φ .truth [x])
 |.tup xs=>some (!xs.isEmpty)
 |.cv _ _=>some true
 |.obj i=>dg (listAt σ i) (fun xs=>some (!xs.isEmpty)) (dg (dictAt σ i) (fun es=>some (!es.isEmpty)) ((lF σ i).bind fun p=>bif p.1.isEmpty&&p.2.2.isEmpty then none else some true))
 |.top _=>none
theorem rq:typeLookup (.type "method") "__bool__"=pure none:=by refine eL (typeLookup_type ..) (eL builtinLookup_eq_fast ?_);kernel_rfl
theorem tj:typeLookup (.type "method") "__len__"=pure none:=by refine eL (typeLookup_type ..) (eL builtinLookup_eq_fast ?_);kernel_rfl
theorem yV(a:xs.length<=1000)(b:zs.length<=1000):(xs++(kD x++zs)).length<=3000:=by
 have:(kD x).length<=1000:=by
  induction x with
  |vals c=>exact eL (aj ..) (eL bE (min_le_left _ _))
  |_=>exact zero_le _
 exact eL aa (eL aa (dN 0x10F8BBBBB8CC1024F8BEB3B824F8BEB3B814F8BEB3B80 tt this b a))
theorem Bu(H:Hr C F Ω σ){i:Nat}{p:List AV×Nat×List AV}(ho:lF σ i=some p):OP (bif p.1.isEmpty&&p.2.2.isEmpty then none else some true) fun b=>wpAny C.M F.A (truthy (.ref (Ω.ρ i).1)) (cW C F Ω σ QB b) no Ω.s:=by
 obtain⟨xs,k,zs⟩:=p;refine cw (H.fK ho) fun g n e c d=>?_
 have key:(xs.isEmpty&&zs.isEmpty)=false->wpAny C.M F.A (truthy (.ref (Ω.ρ i).1)) (cW C F Ω σ QB true) no Ω.s:=fun f=>wpAny_truthy_list ⟨_,e,rfl,n,rfl⟩ (c.size▸Gq d) (cW.now H (ag (aE _) (aE _)) (by
  refine eL c.isEmpty ?_;clear e c d H ho;rcases xs with _|⟨_,_⟩
  .clear g n;induction zs with
   |cons a zs=>rcases kD (C.θ k) with⟨⟩<;>rfl
   |nil=>exact(aA (Eq.symm f)).elim
  .rfl))
 clear e c d H ho;rcases f:xs.isEmpty&&zs.isEmpty with _|_
 .exact key f
 .trivial
theorem vU(G:Good C)(H:Hr C F Ω σ)(m:VR C Ω a v):OP (iO C.Φ σ a) fun b=>wpAny C.M F.A (truthy v) (cW C F Ω σ QB b) no Ω.s:=by
 induction m with
 |lf x v q=>exact jq G ((vI q).mono fun _ h=>h _ fun t d=>.now H d rfl)
 |tup xs j a e1 l s q=>
  have r:de C Ω xs j:=⟨l,q⟩;exact truthy_tuple e1 (r.size▸Int.not_le.mp (qm s)) (cW.now H (ag (aE _) (aE _)) (az Bool.not r.isEmpty.symm))
 |cv f a x v e1 q=>
  have d:Ω.s.TypeIs (.ref a) "method":=⟨_,e1,rfl⟩;exact ai (wpAny_callSpecial?_none d rq (ai (wpAny_specialOf d tj (aL (cW.fF H rfl)))))
 |obj i hi=>
  exact .dg (fun xs ho=>(cw (H.list ho) fun j k g c e=>(wpAny_truthy_list ⟨_,g,rfl,k,rfl⟩ (c.size▸Gq e) (cW.now H (ag (aE _) (aE _)) (az Bool.not c.isEmpty.symm))))) (.dg (fun es ho=>(cS (H.dict ho) fun n g c e=>(wpAny_truthy_dict (H.qh G (eD ho)) g (c.len▸Gq (ag e (by decide))) (cW.now H (ag (aE _) (aE _)) (az Bool.not (empty_eq c.len)))))) (.bind (.intro fun p ho=>(Bu H ho))))
 |top v=>trivial
theorem qG(G:Good C)(b:VR C Ω a v):Sm C F Ω (truthy v) (rd fun σ=>iO C.Φ σ a) QB:=.rd fun _ w _ H=>vU G H (b.mono w)
theorem cW.list(H:Hr C F Ω σ)(r:de C Ω xs a)(b:xs.length<=16777217):
  cW C F Ω { σ with obj:=σ.obj++[.list xs] } (QV C) (.obj σ.obj.length) (.ref Ω.h.objs.size) (gy Ω.s (Ω.h.push { cls:=.type "list",data:=.seq a.toArray }) Ω.s.toks):=
 have g:=bp _ rfl
 .new H (ah _) (fun _ _ e=>aP _ e) (cK _ (ah _)) (cK _ (ah _)) ⟨_,g⟩ ⟨_,g⟩ (fun cb w e=>(dJ a 0 ⟨by exact eL e g,r.mono w,b⟩)) fun _ _ q=>q
theorem cW.tup(H:Hr C F Ω σ)(r:de C Ω xs a)(b:xs.length<=sizeLine):
  cW C F Ω σ (QV C) (.tup xs) (.ref Ω.h.objs.size) (gy Ω.s (Ω.h.push { cls:=.type "tuple",data:=.seq a.toArray }) Ω.s.toks):=
 .grown H (ah _) (fun _ _ e=>aP _ e) fun w=>.tup xs a _ ⟨_,bp _ rfl,rfl,0,rfl⟩ r.len b (r.mono w).at_
theorem mL{v:View}(a:v≠.no)(e:gq C.K f xs=v):∃l,nC C.K xs.toList=some l/\v=f l/\l.length<=ik:=by
 unfold gq at e;rcases h:nC C.K xs.toList with _|l
 .simp only [h] at e;exact absurd e.symm a
 .simp only [h] at e;by_cases q:l.length<=ik
  .rw [if_pos q] at e;exact⟨l,rfl,e.symm,q⟩
  .rw [if_neg q] at e;exact absurd e.symm a
def Ao(C:Ctx)(t:Addr):View->Prop
 |.tup xs=>(∃a:List Value,IsTup C.h₀ t a.toArray/\nC C.K a=some xs)/\xs.length<=ik
 |.list xs=>(∃a:List Value,C.h₀.IsList t a.toArray/\nC C.K a=some xs)/\xs.length<=ik
 |.dict es=>∃b e,C.h₀.get? t=some { cls:=.type "dict",dict:=none,data:=.dict b e,slots:=#[] }/\fP C.K b.toList=some es/\b.size<=ik/\(t==sysModules)=false
 |.jR _=>True
 |.inst c d=>∃sl,C.K.lookup t=some { cls:=.ref c,dict:=some d,data:=.plain,slots:=sl }
 |.no=>True
theorem DY{t:Addr}(o:Obj)(ho:C.K.lookup t=some o)(h:C.h₀.get? t=some o):Ao C t (zU C.K t o):=by
 obtain⟨cls,dict,data,sl⟩:=o;have no:=trivial;induction data with
 |seq xs i=>
  show Ao C t (if cls=.type "tuple" then _ else if cls=.type "list" then _ else _);by_cases f:cls=.type "tuple"
  .refine eL (if_pos f) ?_;by_cases g:gq C.K .tup xs=.no
   .exact eL g no
   .exact cS (mL g rfl) fun l a b c=>(eL b (⟨⟨xs.toList,⟨_,h,f,i,rfl⟩,a⟩,c⟩))
  .refine eL (if_neg f) ?_;by_cases e:cls=.type "list"
   .refine eL (if_pos e) ?_;by_cases g:gq C.K .list xs=.no
    .exact eL g no
    .exact cS (mL g rfl) fun l a b c=>(eL b (⟨⟨xs.toList,⟨_,h,e,i,rfl⟩,a⟩,c⟩))
   .exact eL (if_neg e) no
 |dict es i=>
  show Ao C t (if cls=.type "dict"/\dict=none then _ else _);by_cases f:cls=.type "dict"/\dict=none
  .refine eL (if_pos f) ?_;unfold jI;by_cases e:sl = #[]/\es.size<=ik/\(t==sysModules)=false
   .refine eL (if_pos e) ?_;clear no ho;cases m:fP C.K es.toList with
    |some l=>(refine bY f ?_;clear f;intro j p;subst j;subst p);(refine fq e ?_;clear e;intro j n k;subst j);exact(dJ es i ⟨h,m,n,k⟩)
    |none=>simp only;rcases eW C.K es.toList with⟨⟩<;>trivial
   .exact eL (if_neg e) no
  .exact eL (if_neg f) no
 |plain=>
  clear h;induction cls with
  |ref c=>cases dict with
   |some d=>exact⟨sl,ho⟩
   |none=>exact no
  |_=>rcases dict with⟨⟩<;>exact no
 |_=>exact no
theorem iI(G:Good C){t:Addr}{v:View}(e:cM C.K t=v):Ao C t v:=by
 unfold cM at e;rcases h:C.K.lookup t with _|o
 .rw [h] at e;subst e;trivial
 .rw [h] at e;subst e;exact DY o h (G.lI _ _ h)
theorem pY{h a:Heap}{t:Addr}{bT:Array Value}(x:IsTup h t bT)(k:∀b o,h.get? b=some o->a.get? b=some o):IsTup a t bT:=x.imp fun _ q=>⟨k _ _ q.1,q.2⟩
theorem Ea{h a:Heap}{t:Addr}{bT:Array Value}(x:h.IsList t bT)(k:∀b o,h.get? b=some o->a.get? b=some o):a.IsList t bT:=x.imp fun _ q=>⟨k _ _ q.1,q.2⟩
end
noncomputable def EP:View->Option (List AV)
 |.tup xs=>some xs
 |_=>none
noncomputable def Of:View->Option (List AV)
 |.list xs=>some xs
 |_=>none
def xr(K:Frag):AV->Option (List AV)
 |.tup xs=>some xs
 |.top (.ref t)=>EP (cM K t)
 |_=>none
noncomputable def Gl(σ:St)(i:Nat):Option (List AV):=match σ.obj[i]? with
 |some (.list xs)=>some xs
 |some (.dy _ xs)=>some xs
 |_=>none
def oB(K:Frag)(σ:St):AV->Option (List AV)
 |.obj i=>Gl σ i
 |.top (.ref t)=>Of (cM K t)
 |_=>none
noncomputable def new(o:AO):I AV:=fun σ=>some (.obj σ.obj.length,{ σ with obj:=σ.obj++[o] })
def gN(n:Nat)(i:I AV):I AV:=gd (decide (n<=big)) i
section
variable{C:Ctx}{F:Fm}{Ω cj:Om}{σ:St}{v u:Value}{a b:AV}
structure yA(C:Ctx)(Ω:Om)(xs:List AV)(v:Value):Prop where
 ex:∃t vs,v=.ref t/\IsTup Ω.h t vs.toArray/\de C Ω xs vs
 len:xs.length<=sizeLine
structure yC(C:Ctx)(Ω:Om)(xs:List AV)(v:Value):Prop where
 ex:∃t vs,v=.ref t/\Ω.h.IsList t vs.toArray/\de C Ω xs vs
 len:xs.length<=16777217
theorem kO(G:Good C)(H:Hr C F Ω σ)(f:VR C Ω a v):OP (xr C.K a) fun xs=>yA C Ω xs v:=by
 induction f with
 |tup xs c t e l s q=>exact⟨⟨t,c,rfl,e,l,q⟩,s⟩
 |top v=>
  induction v with
  |ref t=>
   show OP (EP (cM C.K t)) _;have h:=iI G (t:=t) rfl;cases hw:cM C.K t with
   |tup xs=>
    rw [hw] at h;exact bY h fun g d=>(bW g fun c i j=>⟨⟨t,c,rfl,pY i H.keep,(de.nC G.lI c).of j⟩,ag d (by decide)⟩)
   |_=>trivial
  |_=>trivial
 |_=>trivial
theorem gW(G:Good C)(H:Hr C F Ω σ)(n:VR C Ω a v):OP (oB C.K σ a) fun xs=>yC C Ω xs v:=by
 induction n with
 |obj i hi=>
  refine .intro fun xs e=>?_;have e:Gl σ i=some xs:=e
  unfold Gl at e;rcases ho:σ.obj[i]? with _|o
  .rw [ho] at e;exact cX e
  .have h:=H.rel.ob i o ho;rw [ho] at e;induction o with
   |list ys=>(injection e with g;subst g);refine cw h fun c k l j d=>?_;exact⟨⟨_,c,rfl,⟨_,l,rfl,k,rfl⟩,j⟩,d⟩
   |dy o ys=>(injection e with g;subst g);(refine bY h fun l f=>?_;refine cS f fun c k j d=>?_);exact⟨⟨_,c,rfl,⟨o,l,k⟩,j⟩,d⟩
   |dict=>exact cX e
   |inst=>exact cX e
   |fK=>exact cX e
 |top v=>
  induction v with
  |ref t=>
   show OP (Of (cM C.K t)) _;have h:=iI G (t:=t) rfl;cases hw:cM C.K t with
   |list xs=>
    rw [hw] at h;exact bY h fun f m=>(bW f fun c q p=>⟨⟨t,c,rfl,Ea q H.keep,(de.nC G.lI c).of p⟩,ag m (by decide)⟩)
   |_=>trivial
  |_=>trivial
 |_=>trivial
theorem zc(c us:List Value):c.toArray++us.toArray=(c++us).toArray:=List.append_toArray c us
theorem Ld(H:Hr C F Ω σ)(x:yA C Ω xs v)(hb:yA C Ω ys u)(o:xs.length+ys.length<=big):wpAny C.M F.A (binaryOp .Add v u) (cW C F Ω σ (QV C) (.tup (xs++ys))) no Ω.s:=by
 refine cw x.ex fun t d w l r=>?_;subst w
 obtain⟨b,us,rfl,hb,q⟩:=hb.ex;have p:=aa▸cA o;have fin:∀ {a} {m},IsTup Ω.h a m.toArray->m=d++us->cW C F Ω σ (QV C) (.tup (xs++ys)) (.ref a) Ω.s:=fun hw e=>.fF H (.tup _ _ _ (e▸hw) (r.append q).len p (r.append q).at_)
 obtain⟨⟨_,k,_,sl⟩,ho,rfl,n,rfl⟩:=id l;obtain⟨⟨_,i,_,j⟩,c,rfl,g,rfl⟩:=id hb;by_cases f:d=[]
 .exact concat_meets ⟨_,ho,rfl⟩ ⟨_,c,rfl⟩ noFill_tuple_add seq_tuple_add PySem.F.slot_tuple_add PySem.F.entry_tuple_add (PySem.F.args_tuple_add_2 _ _)
   (tuple_addW0 t b d.toArray us.toArray n g k i sl j (by refine eL f ?_;rfl)) ⟨ho,c,fin hb (by refine eL f ?_;rfl)⟩
 .by_cases hw:us=[]
  .exact concat_meets ⟨_,ho,rfl⟩ ⟨_,c,rfl⟩ noFill_tuple_add seq_tuple_add PySem.F.slot_tuple_add PySem.F.entry_tuple_add (PySem.F.args_tuple_add_2 _ _)
    (tuple_addW1 t b d.toArray us.toArray n g k i sl j (by simpa using f) (by refine eL hw ?_;rfl)) ⟨ho,c,fin l (eL hw (eL (aF ..) rfl))⟩
  .refine concat_meets ⟨_,ho,rfl⟩ ⟨_,c,rfl⟩ noFill_tuple_add seq_tuple_add PySem.F.slot_tuple_add PySem.F.entry_tuple_add (PySem.F.args_tuple_add_2 _ _)
    (tuple_addW2 t b d.toArray us.toArray n g k i sl j (by simpa using f) (by simpa using hw) (eL r.size (eL q.size (cA o)))) ⟨ho,c,?_⟩
   exact eL (zc ..) (cW.tup H (r.append q) p)
theorem Mh(H:Hr C F Ω σ)(j:yC C Ω xs v)(hb:yC C Ω ys u)(d:xs.length+ys.length<=big):wpAny C.M F.A (binaryOp .Add v u) (cW C F Ω { σ with obj:=σ.obj++[.list (xs++ys)] } (QV C) (.obj σ.obj.length)) no Ω.s:=by
 refine cw j.ex fun t h f e r=>?_;subst f
 obtain⟨b,us,rfl,hb,q⟩:=hb.ex;obtain⟨⟨_,l,_,sl⟩,ho,rfl,n,rfl⟩:=e;obtain⟨⟨_,i,_,k⟩,c,rfl,g,rfl⟩:=hb;refine concat_meets ⟨_,ho,rfl⟩ ⟨_,c,rfl⟩ noFill_list_add seq_list_add PySem.F.slot_list_add PySem.F.entry_list_add (PySem.F.args_list_add_2 _ _)
  (list_addW t b h.toArray us.toArray n g l i sl k (eL r.size (eL q.size (cA d)))) ⟨ho,c,?_⟩
 exact eL (zc ..) (cW.list H (r.append q) (aa▸ag d (by decide)))
noncomputable def isAdd:Operator->Bool
 |.Add=>true
 |_=>false
theorem vm(h:isAdd op=true):op=.Add:=by rcases op with⟨⟩<;>first|rfl|exact(aA h).elim
def Pd(K:Frag)(Φ:List Fact)(op:Operator)(a b:AV):I AV:=dg (iB a)
 (fun x=>opt (iB b) fun y=>Xe ((kH Φ (xJ op) [x,y]).map .lf))
 (gd (isAdd op) (dg (xr K a) (fun xs=>opt (xr K b) fun ys=>gd (decide (xs.length+ys.length<=big)) (ret (.tup (xs++ys))))
  fun σ=>(oB K σ a).bind fun xs=>(oB K σ b).bind fun ys=>gd (decide (xs.length+ys.length<=big)) (new (.list (xs++ys))) σ))
theorem cI(c:VR C Ω a v):OP (iB a) fun x=>LR (C.cn x) v:=by
 induction c with
 |lf x v q=>exact q
 |_=>trivial
theorem OP.opt(h:OP o fun b=>OP (f b σ) P):OP (Mine.opt o f σ) P:=by
 rcases o with⟨⟩
 .trivial
 .exact h
theorem OP.gd(h:c=true->OP (i σ) P):OP (Mine.gd c i σ) P:=by
 rcases c with⟨⟩
 .trivial
 .exact h rfl
theorem OP.SQ{g:I c}(h:OP o fun b=>OP (f b σ) P)(k:OP (g σ) P):OP (Mine.dg o f g σ) P:=by
 rcases o with⟨⟩
 .exact k
 .exact h
theorem zb(op)(x y):ew (xJ op) [x,y]=rC (xJ op) x y:=by rcases op with⟨⟩<;>rfl
theorem Qr(G:Good C)(op:Operator)(c:VR C Ω a v)(hb:VR C Ω b u):Sm C F Ω (binaryOp op v u) (Pd C.K C.Φ op a b) (QV C):=fun cj w σ H=>
 .SQ ((cI (c.mono w)).mono fun x f=>.opt ((cI (hb.mono w)).mono fun y g=>.map (.map (fC G H (eL map_cons (eL map_cons (eL map_nil (eL (zb ..) (Ez H.rel.toks op f g)))))))))
  (.gd fun h=>by
   obtain rfl:=vm h;exact .SQ ((kO G H (c.mono w)).mono fun xs e=>.opt ((kO G H (hb.mono w)).mono fun ys d=>.gd fun q=>Ld H e d (ax q)))
    (.bind ((gW G H (c.mono w)).mono fun xs e=>.bind ((gW G H (hb.mono w)).mono fun ys d=>.gd fun q=>Mh H e d (ax q)))))
def yd(Φ:List Fact)(op:Operator)(a b:AV):I AV:=opt (iB a) fun x=>opt (iB b) fun y=>gd (isAdd op||op==.Sub) (Xe ((kH Φ (xJ op) [x,y]).map .lf))
theorem ym(G:Good C)(op)(d:VR C Ω a v)(hb:VR C Ω b u):Sm C F Ω (inplaceOp op v u) (yd C.Φ op a b) (QV C):=fun cj w σ H=>
 .opt ((cI (d.mono w)).mono fun x c=>.opt ((cI (hb.mono w)).mono fun y e=>.gd fun h=>.map (.map (fC G H (by
  refine eL map_cons (eL map_cons (eL map_nil (eL (zb ..) ?_)));exact OY H.rel.toks op ((Bool.or_eq_true _ _).mp h |>.imp vm aC.mp) c e)))))
end
theorem uS(x y:Str):(x==y)=(y==x):=Bool.eq_iff_iff.mpr ⟨fun q=>aC.mpr (aC.mp q).symm,fun q=>aC.mpr (aC.mp q).symm⟩
noncomputable def ye:AV->Option Int
 |.lf (.int i)=>some i
 |_=>none
noncomputable def BU:AV->Option Str
 |.lf (.str s)=>some s
 |_=>none
noncomputable def Ex:View->Option (List (Str×AV))
 |.dict es=>some es
 |_=>none
noncomputable def yn:View->Option (List (Int×AV))
 |.jR es=>some es
 |_=>none
noncomputable def BE:AV->Option Addr
 |.top (.ref t)=>some t
 |_=>none
noncomputable def fQ:AV->Option Nat
 |.obj i=>some i
 |_=>none
def getIdx(xs:List AV)(i:Int):Option AV:=bif Bw i then(seqIndex? i xs.length).bind fun k=>xs[k]? else none
section
variable{C:Ctx}
theorem kN(b:VR C Ω a v):OP (ye a) fun i=>∃t,v=.int i t:=by
 induction b with
 |lf x v q=>rcases x with⟨⟩<;>first|trivial|exact q.inv
 |_=>trivial
theorem mJ(b:VR C Ω a v):OP (BU a) fun x=>∃t,v=.str x t/\x.length<=sizeLine/\t≠0:=by
 induction b with
 |lf x v q=>rcases x with⟨⟩<;>first|trivial|exact q.inv
 |_=>trivial
theorem lZ(b:VR C Ω a v):OP (BE a) fun t=>v=.ref t:=by
 induction b with
 |top v=>rcases v with⟨⟩<;>first|trivial|exact rfl
 |_=>trivial
theorem dZ(b:VR C Ω a v):OP (fQ a) fun i=>v=.ref (Ω.ρ i).1/\i<Ω.n:=by
 induction b with
 |obj i hi=>exact⟨rfl,hi⟩
 |_=>trivial
theorem fW.find(r:fW C Ω es b)(k):(∀a,es.lookup k=some a->∃v,valueAt b k=some v/\VR C Ω a v)/\(valueAt b k).isSome=(es.lookup k).isSome:=by
 induction r with
 |nil=>exact⟨fun _ e=>(cX e),rfl⟩
 |@cons p q es b h _ c=>
  refine eL aY ?_;unfold valueAt;refine eL find?_cons (eL h.1 ?_);by_cases z:p.1=k
  .exact eL (bo z) (eL (aC.mpr z.symm) (⟨fun a e=>⟨_,rfl,bB e▸h.2⟩,rfl⟩))
  .exact eL (bx z) (eL (aN.mpr (Ne.symm z)) c)
theorem RF{K:Frag}{r:List DictEntry}(a:kZ K val=none):fP K (⟨b,.str x t,val⟩::r)=none:=by
 show(match kZ K val with|some v=>(fP K r).map ((x,v)::·)|none=>none)=none;exact eL a rfl
theorem PX{K:Frag}{val:Value}{v:AV}(a:kZ K val=some v):fP K (⟨b,.str x t,val⟩::r)=(fP K r).map ((x,v)::·):=by
 show(match kZ K val with|some v=>(fP K r).map ((x,v)::·)|none=>none)=_;exact eL a rfl
theorem tc(k:Str):∀ {es:List DictEntry} {l},fP C.K es=some l->(es.all fun e=>isExactStrKey e.key)=true/\((es.find? fun e=>e.key.isStr k).map (·.val)).bind (kZ C.K)=l.lookup k/\((es.find? fun e=>e.key.isStr k).map (·.val)).isSome=(l.lookup k).isSome:=by
 intro es;induction es with
 |nil=>intro l q;(injection q with h;subst h);exact⟨rfl,rfl,rfl⟩
 |cons x r b=>
  intro l q;obtain⟨f,key,val⟩:=x;induction key with
  |str x t=>
   rcases a:kZ C.K val with _|v
   .exact cX ((RF a).symm.trans q)
   .have q:=(PX a).symm.trans q;refine bW (aQ.mp q) fun l' d g=>?_
    clear q;subst g;refine bY (b d) fun c b=>?_
    have ks:(⟨f,.str x t,val⟩:DictEntry).key.isStr k=(k==x):=uS x k;refine eL find?_cons (eL aY (eL ks ?_));refine⟨c,?_⟩;clear ks c d q;cases k==x with
    |true=>exact⟨a,rfl⟩
    |false=>exact b
  |_=>exact cX q
theorem ta{a:Addr}(ho:s.heap.get? a=some o)(hd:o.data=.dict es g)
  (d:(es.toList.all fun e=>isExactStrKey e.key)=true) (b:Q ((es.toList.find? fun e=>e.key.isStr k).map (·.val)) { s with toks:=s.toks+1 }):
  wpAny C.M A (dictGet a (.str k f)) Q E s:=by
 try with_reducible refine bK ?_
 refine ai (wpAny_pyHash_str (ai (KTD.kt_dictFind_strs ho hd (Array.all_toList▸d) ?_)));have c:findBy (fun k v=>v.isStr k) es k=(es.toList.find? fun e=>e.key.isStr k).map (·.val):=by
  obtain⟨l⟩:=es;simp [findBy]
 rw [<-c,findBy_of_findIdx?] at b;cases hi:es.findIdx? fun e=>e.key.isStr k with
 |none=>rw [hi] at b;exact aL b
 |some i=>rw [hi] at b;exact ai (wpAny_dictEntries ho hd (aL b))
theorem item_tup(H:Hr C F Ω σ)(h:yA C Ω xs v):OP (getIdx xs i) fun a=>wpAny C.M F.A (getItem v (.int i t)) (cW C F Ω σ (QV C) a) no Ω.s:=by
 refine cw (h.ex) fun p f c d r=>?_;subst c
 refine .bif fun q=>.bind (.intro fun k e1=>.intro fun a e2=>?_)
 have q:=ab.mp q;exact bW (r.get e2) fun v b e=>(getItem_tuple d (ax q.1) (ax q.2) (r.size▸e1) ((bD ..).trans b) (.fF H e))
theorem wN(H:Hr C F Ω σ)(h:yC C Ω xs v):OP (getIdx xs i) fun a=>wpAny C.M F.A (getItem v (.int i t)) (cW C F Ω σ (QV C) a) no Ω.s:=by
 refine cw (h.ex) fun p g e c r=>?_;subst e
 refine .bif fun q=>.bind (.intro fun k e1=>.intro fun a e2=>?_)
 have q:=ab.mp q;refine bW (r.get e2) fun v l d=>?_
 have b:∀ {j},j=k->g.toArray[j]?=some v:=fun z=>z▸(bD ..).trans l
 unfold seqIndex? at e1;by_cases hi:i<0
 .simp only [hi,if_true] at e1;split at e1
  .rename_i f
   exact wpAny_getItem_list_neg c hi (by have:=ax (ab.mp f).1;refine eL r.size ?_;omega) (ax q.1) (b (eL r.size (bB e1))) (.fF H d)
  .exact cX e1
 .simp only [hi,if_false] at e1;split at e1
  .exact wpAny_getItem_list c (Int.not_lt.mp hi) (ax q.2) (b (bB e1)) (.fF H d)
  .exact cX e1
end
theorem OP.oe(h:OP b fun x=>OP (f x) P)(k:OP o P):OP (Mine.dg b f o) P:=by
 rcases b with⟨⟩
 .exact k
 .exact h
def PV(Φ:List Fact)(o i:AV):Option AV:=(iB o).bind fun x=>(iB i).bind fun y=>(kH Φ .idx [x,y]).map .lf
noncomputable def ia:List AV->Option (List bQ)
 |[]=>some []
 |a::r=>(iB a).bind fun x=>(ia r).map (x::·)
def Fb(Φ:List Fact)(y:bQ)(xs:List AV):Option AV:=(ia xs).bind fun ls=>(kH Φ .pick (y::ls)).map .lf
def UL(K:Frag)(Φ:List Fact)(σ:St)(o i:AV):Option AV:=dg (iB o) (fun _=>PV Φ o i) ((iB i).bind fun y=>dg (xr K o) (Fb Φ y) ((oB K σ o).bind (Fb Φ y)))
def Nc(o i:AV)(σ:St):Option AV:=(fQ o).bind fun j=>(lF σ j).bind fun p=>(ye i).bind fun k=>bif decide (k = -1) then p.2.2.getLast? else none
def FP(K:Frag)(Φ:List Fact)(o i:AV)(σ:St):Option AV:=
 dg (BU i) (fun k=>dg (fQ o) (fun j=>(dictAt σ j).bind fun es=>es.lookup k) ((BE o).bind fun t=>(Ex (cM K t)).bind fun es=>es.lookup k))
  (dg (Nc o i σ) some (dg (ye i) (fun k=>dg (xr K o) (fun xs=>getIdx xs k) (dg (oB K σ o) (fun xs=>getIdx xs k) (dg (BE o) (fun t=>(yn (cM K t)).bind fun es=>es.lookup k) (PV Φ o i)))) (UL K Φ σ o i)))
section
variable{C:Ctx}{F:Fm}{Ω cj:Om}{σ:St}{v u:Value}{a b o i:AV}{E:Value->Shared->Prop}
theorem iq{es}(e:Ex w=some es):w=.dict es:=by rcases w with⟨⟩<;>first|exact cX e|((injection e with c;subst c);rfl)
theorem nU{es}(e:yn w=some es):w=.jR es:=by rcases w with⟨⟩<;>first|exact cX e|((injection e with c;subst c);rfl)
theorem isStrOf(x)(t):(strKind C.prog C.w).is x (.str x t)=true:=by exact if_pos rfl
theorem yU(x)(t):(intKind C.prog C.w).is x (.int x t)=true:=by exact if_pos rfl
def Road(s:Shared)(v:Value):Prop:=∃T id,s.TypeIs v T/\typeLookup (.type T) "__getitem__"=pure (some (.builtin id))
theorem yA.road(h:yA C Ω xs v):Road Ω.s v:=by(refine cw (h.ex) fun t g d f _=>?_;subst d;obtain⟨o,e,c,_⟩:=f);exact(dJ _ _ ⟨⟨o,e,c⟩,F.slot_tuple_getitem.lookup⟩)
theorem yC.road(h:yC C Ω xs v):Road Ω.s v:=by(refine cw (h.ex) fun t d c e _=>?_;subst c);exact(dJ _ _ ⟨e.typeIs,slot_list_getitem.lookup⟩)
theorem nB(h:Ω.s.TypeIs (.ref t) "dict"):Road Ω.s (.ref t):=(dJ _ _ ⟨h,slot_dict_getitem.lookup⟩)
theorem wF(G:Good C)(H:Hr C F Ω σ)(g:cM C.K t=.dict es)(k)(f)
  (h:∀o:Option Value,o.bind (kZ C.K)=es.lookup k->o.isSome=(es.lookup k).isSome->P o (gy Ω.s Ω.h (Ω.s.toks+1))):wpAny C.M A (dictGet t (.str k f)) P no Ω.s:=by
 exact cw (iI G g) fun m n d e _=>(fq (tc k e) fun l j c=>(ta (H.keep _ _ d) rfl l (h _ j c)))
theorem lK(G:Good C)(H:Hr C F Ω σ){es:List (Str×AV)}(d:cM C.K t=.dict es):Ω.s.TypeIs (.ref t) "dict":=by
 exact eF (iI G d) fun e f c _=>⟨_,H.keep _ _ c,rfl⟩
theorem rX[DecidableEq KT]{knd:PySem.KeyKind C.prog C.w KT}{c:List (KT×Value)}(H:Hr C F Ω σ)(q:C.h₀.DictOf knd t c):Ω.h.DictOf knd t c:=by
 exact lQ q fun o es d a r=>(kj o es d ⟨H.keep _ _ a,r⟩)
theorem EB(G:Good C)(H:Hr C F Ω σ){t:Addr}{es:List (Str×AV)}(c:cM C.K t=.dict es):OP (es.lookup k) fun a=>wpAny C.M F.A (getItem (.ref t) (.str k d)) (cW C F Ω σ (QV C) a) no Ω.s:=.intro fun a g=>by
 have hT:=lK G H c;unfold getItem
 try with_reducible refine bK ?_
 refine ai (wpAny_sequenceKey hT (by decide) (ai (wpAny_callSpecial?_slot hT slot_dict_getitem
  (wpAny_call_entry slot_dict_getitem hT entry_dict_getitem (show wpAny _ _ (dictGet t (.str k d)>>=_) _ _ _ from ai (wF G H c k d fun o f h=>?_)) (args_dict_getitem _ _)))))
 refine bW (aM.mp (eR g f)) fun v e e2=>?_;subst e
 exact aL ⟨v,rfl,aL (.now H (aE _) ((VR.kZ G.lI v).of e2))⟩
theorem CD(h:LR x v)(e:rC .idx x y=some r):Road Ω.s v:=by
 induction h with
 |str x t=>exact(dJ _ _ ⟨typeIs_str _ _ _,PySem.F.slot_str_getitem.lookup⟩)
 |int a t=>rcases y with⟨⟩<;>exact cX e
 |_=>exact cX e
theorem Ax(G:Good C)(H:Hr C F Ω σ)(ho:VR C Ω o v)(hi:VR C Ω i u):OP (PV C.Φ o i) fun a=>wpAny C.M F.A (getItem v u) (cW C F Ω σ (QV C) a) no Ω.s/\Road Ω.s v:=
 .bind ((cI ho).mono fun x c=>.bind ((cI hi).mono fun y d=>.map (.intro fun r e=>⟨(fC (o:=.idx) (xs:=[x,y]) G H (Fq H.rel.toks c d)).of e,by refine bW (ju G e) fun f e1 _=>?_;exact CD c e1⟩)))
theorem yt:∀ {xs} {ls},ia xs=some ls->xs=ls.map .lf:=by
 intro xs;induction xs with
 |nil=>
  intro ls e
  (injection e with d;subst d);rfl
 |cons a r f=>
  intro ls e;refine bW (aM.mp e) fun x e1 e2=>(bW (aQ.mp e2) fun l g c=>?_)
  clear e2 e;subst c;cases a with
  |lf y=>cases e1;exact az (AV.lf x::·) (f g)
  |_=>exact cX e1
theorem Ak(G:Good C)(f:LR (C.cn y) u)(it:∀k t,OP (getIdx xs k) fun a=>wpAny C.M F.A (getItem v (.int k t)) (cW C F Ω σ (QV C) a) no Ω.s):OP (Fb C.Φ y xs) fun a=>wpAny C.M F.A (getItem v u) (cW C F Ω σ (QV C) a) no Ω.s:=
 .bind (.intro fun ls e1=>.map (.intro fun r e2=>by
  refine cS (ju G e2) fun O p x _=>(bW (aM.mp p) fun k d c=>?_)
  clear p e2 G;obtain rfl:=yt e1;have B:C.cn y=.int k:=by
   clear c x e1 f it;cases h:C.cn y<;>rw [h] at d<;>first|exact cX d|((injection d with L;subst L);rfl)
  rw [B] at f;clear B d e1;cases f with
  |int _ t=>
   rcases hf:Bw k with _|_
   .rw [hf] at c;exact cX c
   .rw [hf] at c;refine bW (aM.mp c) fun j e n=>?_
    rw [aj] at e;refine bW (aQ.mp (eR aH n)) fun l m H=>?_
    clear n c;subst H;have g:getIdx (ls.map .lf) k=some (.lf l):=by
     unfold getIdx;refine eL hf (eL (aj ..) ?_);show(seqIndex? k ls.length).bind _=_;refine eL e ?_;show(ls.map AV.lf)[j]?=_;refine eL aH (eL m ?_);rfl
    refine wp_mono ((it k t).of g) fun w s' z=>(dW z fun J N D q z=>?_)
    clear g m e t it;cases q with
    |lf _ _ q=>exact⟨J,N,D,.lf _ _ (x _ q),z⟩))
theorem JC(G:Good C)(H:Hr C F Ω σ)(ho:VR C Ω o v)(hi:VR C Ω i u):OP (UL C.K C.Φ σ o i) fun a=>wpAny C.M F.A (getItem v u) (cW C F Ω σ (QV C) a) no Ω.s/\Road Ω.s v:=
 .dg (fun _ _=>Ax G H ho hi) (.bind ((cI hi).mono fun y c=>.oe ((kO G H ho).mono fun xs h=>(Ak G c fun _ _=>item_tup H h).mono fun _ k=>⟨k,h.road⟩) (.bind ((gW G H ho).mono fun xs h=>(Ak G c fun _ _=>wN H h).mono fun _ k=>⟨k,h.road⟩))))
theorem MG(H:Hr C F Ω σ)(ho:VR C Ω o v)(hi:VR C Ω i u):OP (Nc o i σ) fun a=>wpAny C.M F.A (getItem v u) (cW C F Ω σ (QV C) a) no Ω.s/\Road Ω.s v:=by
 refine .bind ((dZ ho).mono fun j m=>.bind (.intro fun p e=>.bind ((kN hi).mono fun k r=>.bif fun l=>.intro fun a c=>(bY m ?_))));clear m;intro g _;subst g;refine cN r ?_;clear r;intro t g;subst g;obtain rfl:=ax l;obtain⟨xs,k,zs⟩:=p;refine cw (H.fK e) fun q n x d _=>?_;have c:zs.getLast?=some a:=c
 have f:(xs++(kD (C.θ k)++zs)).getLast?=some a:=by refine eL List.getLast?_append (eL List.getLast?_append (eL c ?_));rfl
 have L:Ω.h.IsList (Ω.ρ j).1 q.toArray:=⟨_,x,rfl,n,rfl⟩;rw [List.getLast?_eq_getElem?] at f;refine bW (d.get f) fun w e1 e2=>?_
 have pos:0<(xs++(kD (C.θ k)++zs)).length:=by
  clear e1 e2 L c x d e l H ho hi;rcases Nat.eq_zero_or_pos (xs++(kD (C.θ k)++zs)).length with z|z
  .rw [bI.mp z] at f;exact cX f
  .exact z
 exact⟨wpAny_getItem_list_neg L (by decide) (by refine eL d.size ?_;exact Int.neg_le_neg (ofNat_le.mpr pos)) (by decide) (by
  refine eL (show((-1)+(q.toArray.size:Int)).toNat=(xs++(kD (C.θ k)++zs)).length-1 by refine eL d.size ?_;exact ZV) ?_;exact(bD ..).trans e1) (.fF H e2),(dJ _ _ ⟨L.typeIs,slot_list_getitem.lookup⟩)⟩
theorem DB(G:Good C)(H:Hr C F Ω σ)(ho:VR C Ω o v)(hi:VR C Ω i u):OP (FP C.K C.Φ o i σ) fun a=>wpAny C.M F.A (getItem v u) (cW C F Ω σ (QV C) a) no Ω.s/\Road Ω.s v:=by
 refine .oe ((mJ hi).mono fun k d=>?_) (.oe ((MG H ho hi).mono fun _ h=>h) (.oe ((kN hi).mono fun k d=>?_) (JC G H ho hi)))
 .refine bW d ?_;clear d;intro t c _;clear hi;subst c;refine .oe ((dZ ho).mono fun j l=>.bind (.intro fun es e1=>.intro fun a e2=>(cS (H.dict e1) fun y r n _=>(bW ((fW.find n k).1 a e2) fun v g f=>(bY l ?_))))) (.bind ((lZ ho).mono fun t x=>.bind (.intro fun es e1=>by subst x;exact(EB G H (iq e1)).mono fun _ h=>⟨h,nB (lK G H (iq e1))⟩)));clear l;intro c _;clear n e1 e2 G ho;subst c;exact⟨wpAny_getItem_of (isStrOf k t) r.mapOf g (.grown H (aE _) (fun _ _ e=>e) fun w=>f.mono w),nB r.mapOf.typeIs⟩
 .refine cN d ?_;clear d;intro t c;subst c;refine .oe ((kO G H ho).mono fun xs h=>(item_tup H h).mono fun _ k=>⟨k,h.road⟩) (.oe ((gW G H ho).mono fun xs h=>(wN H h).mono fun _ k=>⟨k,h.road⟩) (.oe ((lZ ho).mono fun p hp=>.bind (.intro fun es e1=>.intro fun a e2=>(cN (G.tab _ _ (nU e1)) fun y q=>(bW (q.at_ _ _ e2) fun v g f=>?_)))) (Ax G H ho hi)));clear e1 e2 ho hi;subst hp;have m:=Heap.DictOf.mapOf (rX H q.dict);exact⟨wpAny_getItem_of (yU k t) m g (.now H (aE _) ((VR.kZ G.lI v).of f)),nB m.typeIs⟩
theorem PH:fastLookup "function" "__get__"=some (some (.builtin "function.__get__")):=by kernel_rfl
theorem SD:fastLookup "function" "__set__"=some none:=by kernel_rfl
theorem Qh:fastLookup "function" "__delete__"=some none:=by kernel_rfl
end
noncomputable def vM(K:Frag)(c:Addr):Bool:=plainGet K c "x"&&hasDictIn K c&&plainOver K c&&findIn K (.ref c) "__setattr__"==some (some (.builtin "object.__setattr__"))
noncomputable def handOk:AV->Bool
 |.top (.builtin _)=>false
 |_=>true
noncomputable def TM:View->Option (Addr×Addr)
 |.inst c d=>some (c,d)
 |_=>none
def vR(K:Frag)(σ:St)(name:Str)(o:AV):Option (Addr×Option AV):=
 dg (fQ o) (fun i=>(lH σ i).bind fun p=>bif vM K p.1&&(p.2.lookup name).all handOk then some (p.1,p.2.lookup name) else none)
  ((BE o).bind fun t=>(TM (cM K t)).bind fun p=>bif vM K p.1 then(nsIn K p.2 name).bind fun r=>dg r (fun v=>bif handedIn v then(kZ K v).map fun a=>(p.1,some a) else none) (some (p.1,none)) else none)
section
variable{C:Ctx}{F:Fm}{Ω cj:Om}{σ:St}{v u:Value}{a b o:AV}{name:Str}
structure mK(K:Frag)(c:Addr):Prop where
 ga:findIn K (.ref c) "__getattribute__"=some (some (.builtin "object.__getattribute__"))
 gt:findIn K (.ref c) "__getattr__"=some none
 hd:hasDictIn K c=true
 po:plainOver K c=true
 st:findIn K (.ref c) "__setattr__"=some (some (.builtin "object.__setattr__"))
theorem qz{K:Frag}(e:vM K c=true):mK K c:=by
 unfold vM at e;rw [aW,aW,aW] at e;exact⟨(plainGet_of e.1.1.1).1,(plainGet_of e.1.1.1).2,e.1.1.2,e.1.2,aC.mp e.2⟩
inductive GL(C:Ctx)(Ω:Om):Option AV->Option Value->Prop
 |none:GL C Ω none none
 |some {a:AV} {v:Value} (r:VR C Ω a v) (h:handedIn v=true):GL C Ω (some a) (some v)
structure NN(C:Ctx)(Ω:Om)(name:Str)(c:Addr)(r:Option AV)(v:Value):Prop where
 cls:mK C.K c
 ex:∃x ox od w,v=.ref x/\InstAt Ω.h x ox c (some od)/\lookIn name od=some w/\GL C Ω r w
theorem BS(name)(q)(l)(h:(q::l).any (·.refKey)=false)(c:l.any (·.refKey)=false):getL name (q::l)=if q.key.isStr name=true then some (some q.val) else getL name l:=by
 unfold getL;refine eL find?_cons (eL h (eL c ?_));rcases q.key.isStr name with⟨⟩<;>rfl
theorem Cd.plain(r:Cd C Ω as f):f.any (·.refKey)=false:=by
 induction r with
 |nil=>rfl
 |cons h _ d=>
  refine bY h fun c _=>(cN c fun t e=>(eL any_cons (eL d ?_)))
  unfold DictEntry.refKey;refine eL e ?_;rfl
theorem LR.hand(q:LR y v):handedIn v=true:=by induction q<;>rfl
theorem VR.hand(r:VR C Ω a v)(e:handOk a=true):handedIn v=true:=by
 induction r with
 |top v=>rcases v with⟨⟩<;>first|rfl|exact(aA e).elim
 |lf x v q=>exact q.hand
 |_=>rfl
theorem Cd.get{as:List (Str×AV)}(r:Cd C Ω as d)(c:(as.lookup name).all handOk=true):∃w,getL name d=some w/\GL C Ω (as.lookup name) w:=by
 induction r with
 |nil=>exact⟨none,rfl,.none⟩
 |@cons p q as d h t i=>
  refine bY h fun g f=>?_;obtain⟨j,e⟩:=g
  refine eL (BS name q d (Cd.plain (.cons ⟨⟨j,e⟩,f⟩ t)) (Cd.plain t)) (eL (eL e (uS p.1 name):q.key.isStr name=(name==p.1)) ?_);rw [aY] at c ⊢;revert c;rcases name==p.1 with _|_
  .exact i
  .exact fun c=>⟨_,rfl,.some f (f.hand c)⟩
theorem LL{K:Frag}(e:nsIn K ns name=some r):∃c d es f sl,K.lookup ns=some ⟨c,d,.dict es f,sl⟩/\lookIn name ⟨c,d,.dict es f,sl⟩=some r:=by
 revert e;unfold nsIn;rcases K.lookup ns with _|⟨c,d,data,sl⟩
 .exact fun e=>cX e
 .induction data with
  |dict es f=>exact fun e=>(Td _ _ _ _ _ ⟨rfl,e⟩)
  |_=>exact fun e=>cX e
theorem mx(G:Good C)(H:Hr C F Ω σ)(ho:VR C Ω o v):OP (vR C.K σ name o) fun p=>NN C Ω name p.1 p.2 v:=by
 refine .oe ((dZ ho).mono fun i hi=>.bind (.intro fun p e=>.bif fun q=>?_)) (.bind ((lZ ho).mono fun t c=>.bind (.intro fun p e=>.bif fun q=>.bind (.intro fun r e2=>?_))))
 .have q:=ab.mp q;exact fq (H.rel.ob i _ (kq e)) fun ne e1 l=>(cw l fun y k e2 z _=>(bW (Cd.get z q.2) fun w j s=>⟨qz q.1,_,_,_,w,hi.1,⟨e1,rfl,rfl,e2⟩,j,s⟩))
 .have hw:cM C.K t=.inst p.1 p.2:=by
   clear e2 q c r G H ho;cases g:cM C.K t<;>rw [g] at e<;>first|exact cX e|((injection e with x;subst x);rfl)
  refine cN (iI G hw) fun sl f=>?_;have fin:∀ {d:Option AV},GL C Ω d r->NN C Ω name p.1 d v:=fun hr=>by
   clear hw e ho;obtain⟨_,_,_,_,_,m,e2⟩:=LL e2;exact⟨qz q,t,_,_,r,c,⟨H.keep _ _ (G.lI _ _ f),rfl,rfl,H.keep _ _ (G.lI _ _ m)⟩,e2,hr⟩
  clear f hw e2 q e c H ho;rcases r with _|w
  .exact fin .none
  .exact .bif fun n=>.map ((VR.kZ G.lI w).mono fun a h=>fin (.some h n))
theorem ni{K:Frag}(e:isFn K (.ref f)=true)(name):specialIn K (.ref f) name=fastLookup "function" name:=by
 unfold specialIn;refine eL (aC.mp e) ?_;rfl
theorem Kq{K:Frag}(e:isFn K (.ref f)=true):takesIn K (.ref f)=some false:=by
 unfold takesIn;refine eL (ni e ..) (eL SD ?_);refine eL (ni e ..) (eL Qh ?_);rfl
theorem findObj_fn{K:Frag}{c f:Addr}{od:Obj}(F:mK K c)(h:findIn K (.ref c) name=some (some (.ref f)))(d:isFn K (.ref f)=true)(e:lookIn name od=some none)(j:copiedNames.contains name=false):
  findObj K c (some od) name=some (.bind (.builtin "function.__get__") (.ref f)):=by
 refine bW (any_some F.hd) fun cd i hd=>?_;have ho:W.ownOf cd (some od) name=some none:=by unfold W.ownOf;exact eL (if_pos hd) e
 unfold findObj;refine eL i (eL (bind_some ..) (eL h (eL (bind_some ..) ?_)));have g:=(ni d _).trans PH;show(specialIn K (.ref f) "__get__").bind _=_;refine eL g ?_;show(takesIn K (.ref f)).bind _=_;refine eL (Kq d) ?_;show(W.ownOf cd (some od) name).bind _=_;refine eL ho ?_;show(if(copiedNames.contains name&&_)=true then _ else _)=_;exact eL j rfl
noncomputable def refOf:Value->Option Addr
 |.ref f=>some f
 |_=>none
theorem qQ{a:Value}(e:refOf a=some f):a=.ref f:=by
 cases a with
 |ref g=>exact az Value.ref (bB e)
 |_=>exact cX e
def Vm(K:Frag)(o:AV)(name:Str)(a:Value):Option AV:=bif !copiedNames.contains name then
 dg (refOf a) (fun f=>bif isFn K (.ref f) then some (.cv f o) else none) (bif specialIn K a "__get__"==some none&&handedIn a then kZ K a else none) else none
def GK(K:Frag)(o:AV)(name:Str)(σ:St):Option AV:=(vR K σ name o).bind fun p=>(findIn K (.ref p.1) name).bind fun f=>dg f (fun a=>dg p.2 (fun _=>none) (Vm K o name a)) p.2
theorem AB(G:Good C)(H:Hr C F Ω σ)(ho:VR C Ω o v)(expr):OP (GK C.K o name σ) fun a=>wpAny C.M F.A (getAttr v name expr) (cW C F Ω σ (QV C) a) no Ω.s:=by
 refine .bind ((mx G H ho).mono fun p hp=>.bind (.intro fun f d=>?_));obtain⟨c,r⟩:=p;have L:=hp.1;refine Ju hp.2 fun x m od w l I g hw=>?_;clear hp;subst l
 have X:C.K.In Ω.h:=fun a o e=>H.keep _ _ (G.lI _ _ e)
 rcases f with _|a
 .cases hw with
  |none=>trivial
  |some hr k=>exact get_value X I L.ga (findObj_own L.hd d rfl g) k (cW.grown H (aE _) (fun _ _ e=>e) fun w=>hr.mono w)
 .cases hw with
  |some=>trivial
  |none=>
   refine .bif fun j=>.oe ?_ (.bif fun q=>?_)
   .induction a with
    |ref f=>
     refine .bif fun i=>get_bind X I L.ga (findObj_fn L d i g ((bM _).mp j)) L.gt (wpAny_call (fn_get X (aC.mp i) ?_))
     show wpAny _ _ (handedOut _) _ _ _;exact eL (handedOut_of (by rfl)) (aL (cW.grown H (aE _) (fun _ _ e=>aP _ e) fun w=>.cv f _ o (.ref x) (bp _ rfl) (ho.mono w)))
    |_=>trivial
   .have q:=ab.mp q;exact(VR.kZ G.lI a).mono fun _ h=>get_value X I L.ga (findObj_cls L.hd d (aC.mp q.1) q.2 ((bM _).mp j) g) q.2 (cW.grown H (aE _) (fun _ _ e=>e) fun w=>h.mono w)
end
noncomputable def putD(es:List (Str×AV))(k:Str)(a:AV):List (Str×AV):=if es.any (fun p=>decide (p.1=k))=true then es.map (fun p=>if p.1=k then(p.1,a) else p) else es++[(k,a)]
noncomputable def upd(i:Nat)(o:AO):I Unit:=fun σ=>some ((),{ σ with obj:=σ.obj.set i o })
def FC(K:Frag)(o:AV)(name:Str)(a:AV):I Unit:=opt (fQ o) fun i σ=>(lH σ i).bind fun p=>(gd (vM K p.1&&takerIn K p.1 name==some none&&decide (p.2.length<100)) (upd i (.inst p.1 (put name a p.2)))) σ
def yG(o i a:AV):I Unit:=opt (fQ o) fun j=>dg (BU i) (fun k σ=>(dictAt σ j).bind fun es=>(gd (decide (es.length<100)) (upd j (.dict (putD es k a)))) σ)
 (opt (ye i) fun k σ=>dg (lF σ j) (fun p=>(gd (decide (k = -1)&&!p.2.2.isEmpty) (upd j (.fK p.1 p.2.1 (p.2.2.dropLast++[a])))) σ) ((listAt σ j).bind fun xs=>(gd (decide (0<=k)&&decide (k<xs.length)) (upd j (.list (xs.set k.toNat a)))) σ))
section
theorem F2.append(h:F2 P as bs)(k:F2 P cs ds):F2 P (as++cs) (bs++ds):=by
 induction h with
 |nil=>exact k
 |cons h _ a=>exact .cons h a
theorem F2.map(h:F2 P as bs)(k:∀a b,P a b->P (f a) (g b)):F2 P (as.map f) (bs.map g):=by
 induction h with
 |nil=>exact .nil
 |cons h _ c=>exact .cons (k _ _ h) c
theorem F2.any(h:F2 P as bs)(k:∀a b,P a b->f a=g b):as.any f=bs.any g:=by
 induction h with
 |nil=>rfl
 |cons h _ c=>exact eL any_cons (eL any_cons (eL (k _ _ h) (eL c rfl)))
theorem fW.stored(r:fW C Ω es b)(k)(c:VR C Ω a v):fW C Ω (putD es k a) (PySem.stored b k v):=by
 unfold putD PySem.stored;refine eL (F2.any r fun p q h=>by exact eL h.1 rfl:es.any (fun p=>decide (p.1=k))=b.any (fun d=>decide (d.1=k))) ?_;split
 .exact F2.map r fun p q h=>by
   refine eL h.1 ?_;split
   .exact ⟨rfl,c⟩
   .exact h
 .exact F2.append r (.cons ⟨rfl,c⟩ .nil)
theorem EF(es)(k)(a):(putD es k a).length<=es.length+1:=by
 unfold putD;split
 .exact eL (aj ..) (aE _)
 .exact eL aa (ah _)
theorem Jk(x)(v):∀l,(put x v l).length<=l.length+1:=by
 intro l;induction l with
 |nil=>
  exact ah _
 |cons b l a=>
  obtain⟨y,u⟩:=b;refine eL Fc ?_;split
  .exact aE _
  .exact succ_le_succ (a)
theorem Cd.put(r:Cd C Ω as c)(name)(d:VR C Ω a v)(b)(t):Cd C Ω (Mine.put name a as) (putL name b (.str name t) v c):=by
 induction r with
 |nil=>exact .cons ⟨⟨t,rfl⟩,d⟩ .nil
 |@cons p q as c h j i=>
  refine bY h fun g hw=>(cN g fun f e=>?_)
  have ks:q.key.isStr name=(p.1==name):=by refine eL e ?_;rfl
  unfold putL;refine eL Fc (eL ks ?_);split
  .exact .cons ⟨⟨f,e⟩,d⟩ j
  .exact .cons ⟨⟨f,e⟩,hw⟩ i
theorem de.set(r:de C Ω xs e)(k)(f:VR C Ω a v):de C Ω (xs.set k a) (e.set k v):=by
 refine⟨by exact eL bH (eL bH r.len),fun i x u c d=>?_⟩;rw [List.getElem?_set] at c d;by_cases q:k=i
 .rw [if_pos q] at c d;by_cases z:k<xs.length
  .rw [if_pos z] at c;rw [if_pos (r.len▸z)] at d;(injection c with b;subst b);(injection d with b;subst b);exact f
  .rw [if_neg z] at c;exact cX c
 .rw [if_neg q] at c d;exact r.at_ i x u c d
end
section
variable{C:Ctx}{F:Fm}{Ω cj:Om}{σ:St}{v u z:Value}{a b o i:AV}{name:Str}
theorem Hp{us:List Value}(ho:s.heap.get? l=some (listOf us.toArray n))(d:0<us.length)(h:us.length<=16777217)
  (j:∀e m,e.get? l=some (listOf (us.set (us.length-1) v).toArray m)->Heap.SameBut l s.heap e->Q () (gy s e s.toks)):wpAny C.M A (setItem (.ref l) (.int (-1) t) v) Q no s:=by
 have c:s.heap.IsList l us.toArray:=⟨_,ho,rfl,n,rfl⟩;unfold setItem
 try with_reducible refine bK ?_
 first|refine ai (aL ?_)|skip
 refine ai (wpAny_sequenceKey c.typeIs (by decide) (ai (wpAny_callSpecial?_slot c.typeIs slot_list_setitem
  (wpAny_call_entry slot_list_setitem c.typeIs entry_list_setitem ?_ (args_list_setitem _ _ _)))))
 show wpAny _ _ (Builtin.List.listSubscript? (.int (-1) t)>>=_) _ _ s;refine ai (wpAny_listSubscript_int (by decide) ?_);have f:us.length-1<us.toArray.size:=by exact eL size_toArray (cC 0x11F106F1C90 tt (aq (gC 0x10F095F08 tt d)))
 have g:=Array.getElem?_eq_getElem f;show wpAny _ _ ((Builtin.List.listItems (.ref l)>>=fun xs=>pure ((seqIndex? (Int.negSucc 0) xs.size).bind fun i=>xs[i]?.map (i,·)))>>=_) _ _ s;refine ai (ai ?_);show wpAny _ _ (seqItems? (.ref l)>>=_) _ _ s;refine ai (wpAny_seqItems ho rfl (aL (aL (eL (show seqIndex? (Int.negSucc 0) us.toArray.size=some (us.length-1) by unfold seqIndex?;refine eL size_toArray ?_;simp;exact lst d) ?_))));simp only [bind_some,g,Option.map_some];refine ai (wpAny_setSeqItemAt ho rfl (aL ⟨_,rfl,aL ?_⟩));clear g f c d h;obtain⟨m,hm⟩:∃m,Obj.mapSeq (·.setIfInBounds (us.length-1) v) (listOf us.toArray n)=listOf (us.set (us.length-1) v).toArray m:=by
  unfold Obj.mapSeq;simp only [List.setIfInBounds_toArray];split<;>exact⟨_,rfl⟩
 exact j _ m (by exact eL (Heap.get?_update_self _ ho (by refine eL hm ?_;rfl)) (eL hm rfl)) (Heap.SameBut.update _ _ _)
theorem set_list{us:List Value}{k:Int}(ho:s.heap.get? l=some (listOf us.toArray n))(e:0<=k)(d:k<us.length)(h:us.length<=16777217)
  (q:∀f m,f.get? l=some (listOf (us.set k.toNat v).toArray m)->Heap.SameBut l s.heap f->Q () (gy s f s.toks)):wpAny C.M A (setItem (.ref l) (.int k t) v) Q no s:=by
 have c:s.heap.IsList l us.toArray:=⟨_,ho,rfl,n,rfl⟩;unfold setItem
 try with_reducible refine bK ?_
 first|refine ai (aL ?_)|skip
 refine ai (wpAny_sequenceKey c.typeIs (by decide) (ai (wpAny_callSpecial?_slot c.typeIs slot_list_setitem
  (wpAny_call_entry slot_list_setitem c.typeIs entry_list_setitem ?_ (args_list_setitem _ _ _)))))
 show wpAny _ _ (Builtin.List.listSubscript? (.int k t)>>=_) _ _ s;refine ai (wpAny_listSubscript_int (fitsIndex_of e (Int.lt_trans d (Vv h))) (cN (Int.eq_ofNat_of_zero_le e) fun j r=>?_));clear c e h;subst r;have g:=ofNat_lt.mp d;have p:=Array.getElem?_eq_getElem g;refine ai (ai (wpAny_seqItemAt ho rfl (aL (eL p (ai (wpAny_setSeqItemAt ho rfl (aL ⟨_,rfl,aL ?_⟩)))))));clear p g d;obtain⟨m,hm⟩:∃m,Obj.mapSeq (·.setIfInBounds j v) (listOf us.toArray n)=listOf (us.set j v).toArray m:=by
  unfold Obj.mapSeq;simp only [List.setIfInBounds_toArray];split<;>exact⟨_,rfl⟩
 exact q _ m (by refine eL (Heap.get?_update_self _ ho (by refine eL hm ?_;rfl)) (eL hm ?_);rfl) (Heap.SameBut.update _ _ _)
theorem fG{h:Heap}{a:Addr}(x:h.DictOf (PySem.strKind C.prog C.w) a c):∃o,h.get? a=some o:=x.elim fun o q=>q.elim fun _ q=>q.elim fun _ q=>⟨o,q.1⟩
theorem JM(c:zs≠[]):(D++zs).set ((D++zs).length-1) a=D++(zs.dropLast++[a]):=by
 obtain⟨ys,y,rfl⟩:∃ys y,zs=ys++[y]:=(dJ _ _ ((List.dropLast_concat_getLast c).symm));refine eL dropLast_concat (eR (aw ..) (eR (aw ..) (eL aa ?_)));show((D++ys)++[y]).set ((D++ys).length+1-1) a=_;refine eL (Nat.add_sub_cancel ..) (eL (List.set_append_right _ _ (ah _)) (eL (sub_self ..) ?_));rfl
theorem zv(ho:VR C Ω o v)(hi:VR C Ω i u)(x:VR C Ω a z):Sm C F Ω (setItem v u z) (yG o i a) QU:=fun cj w σ H=>by
 refine .opt ((dZ (ho.mono w)).mono fun j y=>(bY y ?_));clear y;intro d _;subst d;refine .SQ ((mJ (hi.mono w)).mono fun k f=>.bind (.intro fun es e=>.gd fun q=>?_)) (.opt ((kN (hi.mono w)).mono fun k f=>.dg (fun p e=>.gd fun q=>?_) (.bind (.intro fun xs e=>.gd fun q=>?_))))
 .refine bW f ?_;clear f;intro t d _;subst d;refine cS (H.dict e) fun G n c _=>?_;have q:=ax q
  exact wpAny_setItem_pairs (isStrOf k t) n (fun E hd g=>cW.upd H (eD e) (.inl rfl) (aE _) g (fG hd) (fun cb w' l=>⟨_,l▸hd,(fW.stored c k (x.mono w)).mono fun _ _ z=>⟨z.1,z.2.mono w'⟩,ag (EF es k a) q⟩) fun _=>trivial)
   (c.len▸cA (ag (le_of_lt q) (by decide)))
 .refine cN f ?_;clear f;intro t d;subst d;obtain⟨xs,k,zs⟩:=p;refine cw (H.fK e) fun us m n c h=>?_;have q:=ab.mp q
  cases ax q.1;have D:zs≠[]:=fun z=>by have:=q.2;rw [z] at this;exact(aA this).elim
  have e2:∀A B:List AV,(A++(B++zs)).set ((A++(B++zs)).length-1) a=A++(B++(zs.dropLast++[a])):=fun A B=>eR (aw ..) (eR (aw A ..) (JM D))
  refine Hp n (eR c.len (eL aa (eL aa (dN 0x11FCC02185F08 tt (length_pos_iff.mpr D)))):0<us.length) (c.len▸h) fun E s hd g=>cW.upd H (jv e) (.inl rfl) (ah _) g ⟨_,hd⟩ (fun cb w' l=>(dJ _ s ⟨l▸hd,?_,eR (e2 ..) (eL (bH ..) h)⟩)) fun _=>trivial
  have r:=c.set (us.length-1) (x.mono w);rw [<-c.len,e2] at r;exact eR c.len (r.mono w')
 .refine cN f ?_;clear f;intro t d;subst d;refine cw (H.list e) fun us m n c h=>?_;have q:=ab.mp q
  exact set_list n (ax q.1) (c.len▸ax q.2) (c.len▸h) fun E s hd g=>cW.upd H (gB e) (.inl rfl) (ah _) g ⟨_,hd⟩ (fun cb w' l=>(dJ _ s ⟨l▸hd,(c.set _ (x.mono w)).mono w',eL bH h⟩)) fun _=>trivial
theorem Dq{R:Result->Shared->Prop}(X:C.K.In s.heap)(L:mK C.K c)
  (l:s.heap.get? x=some (instObj c f)) (D:s.heap.get? f=some (dictOf d k)) (m:takerIn C.K c name=some none)
  (hr:d.any (·.refKey)=false) (q:(putL name (PyData.keyHash C.w.params name) (.str name s.toks) v d).length<=1000)
  (h:∀g,g.get? f=some (dictOf (putL name (PyData.keyHash C.w.params name) (.str name s.toks) v d) (putN name d k))->Heap.SameBut f s.heap g->R (.ok (.ret .none)) (gy s g (s.toks+1))):
  codeAny C.M A (.call (.builtin "object.__setattr__") ⟨[.ref x,.str name t,v],[]⟩) R s:=by
 refine osa_open X (⟨l,rfl,rfl,D⟩:InstAt s.heap x (instObj c f) c (some (dictOf d k))) L.po m fun b=>(bW (any_some L.hd) fun cd r n=>?_)
 have j:(s.heap.update f (Obj.putName name (PyData.keyHash C.w.params name) (.str name s.toks) v)).get? f=some (dictOf (putL name (PyData.keyHash C.w.params name) (.str name s.toks) v d) (putN name d k)):=by
  exact eL (Heap.get?_update_self _ D (by refine eL (putName_dict ..) ?_;rfl)) (eL (putName_dict ..) rfl)
 refine ai (aL (ai (ai (wpAny_loadPart l (ai ((looks_clsIn X r).here (eL n (aL (ai (aL (ai (ai (ai (wpAny_askSetting (aL (ai (wpAny_mkText (ai (wpAny_loadPart D ?_)))))))))))))))))));have c:(!d.toArray.any (·.key.isStr name)&&d.toArray.any (·.refKey))=false:=by
  exact eR (Array.any_toList (p:=fun e=>DictEntry.refKey e)) (eL hr (eL (Bool.and_false ..) rfl))
 dsimp only;exact eL (aRefKeyMayBeTheName_at ..) (eL c (wpAny_updatePart D (ai (wpAny_lookBehind j (pastItsLine_dict (eL size_toArray (le_succ_of_le (cA (ag q (by decide)))))) (aL (h _ j (Heap.SameBut.update _ _ _)))))))
theorem yS(G:Good C)(ho:VR C Ω o v)(r:VR C Ω a z):Sm C F Ω (setAttr v name z) (FC C.K o name a) QU:=fun cj w σ H=>by
 refine .opt ((dZ (ho.mono w)).mono fun j m=>.bind (.intro fun p e=>.gd fun q=>(bY m ?_)));clear m;intro c _;subst c;rw [aW,aW] at q;have L:=qz q.1.1;have X:C.K.In cj.h:=fun a o e=>H.keep _ _ (G.lI _ _ e)
 refine fq (H.rel.ob _ _ (kq e)) fun ne e1 c=>(cw c fun n k e2 at_ l=>?_)
 have pl:(put name a p.2).length<=100:=ag (Jk name a p.2) (ax q.2);have f:=fun h t=>Cd.put at_ name (r.mono w) h t
 exact set_plain (od:=some (dictOf n k)) X ⟨e1,rfl,rfl,e2⟩ L.st (Dq (s:=gy cj.s cj.h (cj.s.toks+1)) X L e1 e2 (aC.mp q.1.2) (Cd.plain at_) ((f _ _).len▸ag pl (by decide)) fun x hd d=>
  cW.upd (t:=cj.s.toks+1+1) H (kq e) (.inr ⟨rfl,_,_,rfl⟩) (ag (aE _) (aE _)) d ⟨_,hd⟩ (fun cb w' g=>⟨ne,g▸(d.2 _ ne).trans e1,_,_,g▸hd,(f _ _).mono fun _ _ z=>⟨z.1,z.2.mono w'⟩,pl⟩) fun _=>trivial)
end
noncomputable def ja(slots:List (Str×α))(p:Str×α):List (Str×α):=if(slots.lookup p.1).isNone=true then slots++[p] else slots
noncomputable def kwOk{α:Type}(ps:List Str):List (Str×α)->List (Str×α)->Bool
 |_,[]=>true
 |S,p::r=>ps.contains p.1&&((S.lookup p.1).isNone&&kwOk ps (S++[p]) r)
theorem TC:kwOk ps S (p::r)=(ps.contains p.1&&((S.lookup p.1).isNone&&kwOk ps (S++[p]) r)):=rfl
noncomputable def missing(ps:List Str)(n:Nat)(S:List (Str×α)):List Str:=(ps.take (ps.length-n)).filter fun k=>(S.lookup k).isNone
noncomputable def pick(S:List (Str×α))(k:Str):Option (Str×α):=(S.lookup k).map (k,·)
def mw(ps:List Str)(a pos:List α)(b:List (Str×α)):Option (List (Str×α)):=
 bif decide (pos.length<=ps.length)&&(decide (a.length<=ps.length)&&(kwOk ps (ps.zip pos) b&&(missing ps a.length (ps.zip pos++b)).isEmpty)) then
  some (ps.filterMap (pick (((ps.drop (ps.length-a.length)).zip a).foldl ja (ps.zip pos++b)))) else none
theorem xw(l:List (Str×Value)):∀S,(forIn l S (fun p slots=>if(slots.lookup p.1).isNone=true then(pure (ForInStep.yield (slots++[(p.1,p.2)]))) else pure (ForInStep.yield slots)):Sem (List (Str×Value)))=pure (l.foldl ja S):=by
 induction l with
 |nil=>intro S;rfl
 |cons p l a=>
  intro S;refine eL (List.forIn_cons ..) (eL foldl_cons ?_);unfold ja;by_cases q:(S.lookup p.1).isNone=true
  .exact eL (if_pos q) (eL (if_pos q) (a _))
  .exact eL (if_neg q) (eL (if_neg q) (a _))
theorem Dy{body:Str×Value->List (Str×Value)×List (Str×Value)->Sem (ForInStep (List (Str×Value)×List (Str×Value)))}
  (hb:∀p S,ps.contains p.1=true->S.lookup p.1=none->body p (S,[])=pure (ForInStep.yield (S++[p],[]))):∀a S,kwOk ps S a=true->forIn a (S,[]) body=pure (S++a,[]):=by
 intro a;induction a with
 |nil=>
  intro S _;refine eL (aF ..) ?_;rfl
 |cons p a c=>
  intro S h;have h:=ab.mp h;have b:=ab.mp h.2;refine eL (List.forIn_cons ..) (eL (hb p S h.1 (isNone_iff_eq_none.mp b.1)) ?_);show forIn a _ body=_;refine eL (c (S++[p]) b.2) (eL (aw ..) ?_);rfl
theorem pW{α:Type}{x r:α}(e:(bif b then some x else none)=some r):b=true/\x=r:=by
 rcases b with⟨⟩
 .exact cX e
 .exact ⟨rfl,bB e⟩
theorem qb{s:Shared}{c:FuncData}{pos:List Value}{bT:Option (Array Value)}(hp:c.params=⟨[],as,none,[],kd,none,l⟩)
  (hd:∀(M:Model) (A:Around) (E:Value->Shared->Prop) (Q:Option (Array Value)->Shared->Prop),Q bT s->wpAny M A (seqItems? c.defaults) Q E s)
  (e:mw (as.map (·.arg)) (bT.getD #[]).toList pos kw=some binds):BindsTo s c ⟨pos,kw⟩ binds:=fun M A E Q g=>by
 obtain⟨name,qualname,params,body,scope,globals,closure,defaults,i,doc,pm,ann,code,ct,bi⟩:=c;obtain rfl:=hp;have d:=pW e;rw [aW,aW,aW,decide_eq_true_eq,decide_eq_true_eq] at d;refine bY d ?_;clear d;intro h k;refine tB h fun c1 c2 j f=>?_
 subst k;refine ai (wpAny_of_eq (Dy (fun p S a b=>(if_pos (by refine eL a ?_;rfl)).trans (if_neg (by exact eL b aA))) kw _ j) ?_);refine ai (hd _ _ _ _ (wpAny_ite_false (by refine eL (bx (Nat.not_lt.mpr c1)) ?_;rfl) ?_));refine wpAny_ite_false (by refine eL (Nat.sub_eq_zero_of_le c2) (eL drop_zero (eL f ?_));rfl) ?_;exact ai (wpAny_of_eq (xw (((as.map (·.arg)).drop ((as.map (·.arg)).length-((bT.getD #[]).toList.drop ((bT.getD #[]).toList.length-(as.map (·.arg)).length)).length)).zip ((bT.getD #[]).toList.drop ((bT.getD #[]).toList.length-(as.map (·.arg)).length))) _) (eL (Nat.sub_eq_zero_of_le c2) (eL drop_zero (ai (aL (aL ((aF (as.map (·.arg))).symm▸g)))))))
section
inductive OR(C:Ctx)(Ω:Om):Option AV->Option Value->Prop
 |none:OR C Ω none none
 |some {a:AV} {v:Value} (r:VR C Ω a v):OR C Ω (some a) (some v)
theorem OR.isNone(h:OR C Ω x y):x.isNone=y.isNone:=by induction h<;>rfl
theorem fW.zip:∀ {ps:List Str} {xs} {a},de C Ω xs a->fW C Ω (ps.zip xs) (ps.zip a):=by
 intro ps;induction ps with
 |nil=>exact fun _=>.nil
 |cons p ps c=>
  intro xs a r;rcases xs with _|⟨x,xs⟩
  .exact eL r.nil_inv .nil
  .refine cw r.cons_inv fun v us b h t=>?_;clear r;subst b
   exact .cons ⟨rfl,h⟩ (c t)
theorem fW.look(r:fW C Ω es a)(k):OR C Ω (es.lookup k) (a.lookup k):=by
 induction r with
 |nil=>exact .none
 |@cons p q es a h _ b=>
  refine eL aY (eL aY (eL h.1 ?_));rcases k==p.1 with _|_
  .exact b
  .exact .some h.2
theorem fW.fill(r:fW C Ω es a):∀ {S} {T},fW C Ω S T->fW C Ω (es.foldl ja S) (a.foldl ja T):=by
 induction r with
 |nil=>exact id
 |@cons p q es a h _ b=>
  intro S T s;refine b ?_;unfold ja;refine eL h.1 (eR ((fW.look s p.1).isNone) ?_);split
  .exact F2.append s (.cons h .nil)
  .exact s
theorem fW.kwOk(r:fW C Ω es a):∀ {S} {T},fW C Ω S T->Mine.kwOk ps S es=Mine.kwOk ps T a:=by
 induction r with
 |nil=>exact fun _=>rfl
 |@cons p q es a h _ b=>
  intro S T s;exact eL TC (eL TC (eL h.1 (eL ((fW.look s p.1).isNone) (eL (b (F2.append s (.cons h .nil))) rfl))))
theorem fW.opt(h:OR C Ω x y)(r:fW C Ω es a):fW C Ω (((x.map (k,·)).toList)++es) (((y.map (k,·)).toList)++a):=by
 induction h with
 |none=>exact r
 |some h=>exact .cons ⟨rfl,h⟩ r
theorem oX(f:α->Option β)(a)(l):(a::l).filterMap f=(f a).toList++l.filterMap f:=by
 refine eL List.filterMap_cons ?_;rcases f a with⟨⟩<;>rfl
theorem fW.pick(s:fW C Ω S T):∀ps:List Str,fW C Ω (ps.filterMap (Mine.pick S)) (ps.filterMap (Mine.pick T)):=by
 intro ps;induction ps with
 |nil=>
  exact .nil
 |cons k ps a=>
  exact eL (oX ..) (eL (oX ..) (fW.opt (fW.look s k) (a)))
theorem ng{ps ns:List Str}(d:de C Ω ds e)(f:de C Ω pos a)(i:de C Ω ks h):
  OP (mw ps ds pos (ns.zip ks)) fun b=>∃binds,mw ps e a (ns.zip h)=some binds/\fW C Ω b binds:=.bif fun g=>by
 have s:=F2.append (fW.zip (ps:=ps) f) (fW.zip (ps:=ns) i);have m:missing ps ds.length (ps.zip pos++ns.zip ks)=missing ps e.length (ps.zip a++ns.zip h):=by
  exact eL d.len (List.filter_congr fun k _=>(fW.look s k).isNone)
 rw [f.len,d.len,<-d.len,m,d.len,fW.kwOk (fW.zip i) (fW.zip f)] at g;exact⟨_,(az (fun c=>bif c then _ else none) g),(eL d.len (fW.pick (fW.fill (fW.zip d) s) ps))⟩
end
theorem F2.Wj(h:F2 P as bs)(k:∀a b,P a b->Q (f a) b):F2 Q (as.map f) bs:=by
 induction h with
 |nil=>exact .nil
 |cons h _ c=>exact .cons (k _ _ h) c
theorem F2.AK{Q:c->β->Prop}{f:α->c}(k:∀a b,Q (f a) b->P a b):∀ {as} {bs},F2 Q (as.map f) bs->F2 P as bs:=by
 intro as;induction as with
 |nil=>
  intro bs h;cases h;exact .nil
 |cons a r d=>
  intro bs h;cases h with
  |cons h t=>exact .cons (k _ _ h) (d t)
mutual
noncomputable def AV.ed(a:Nat->Nat):AV->AV
 |.lf x=>.lf x
 |.tup xs=>.tup (dE a xs)
 |.cv f x=>.cv f (x.ed a)
 |.obj i=>.obj (a i)
 |.top v=>.top v
noncomputable def dE(a:Nat->Nat):List AV->List AV
 |[]=>[]
 |x::xs=>x.ed a::dE a xs
end
mutual
noncomputable def AV.gk(k:Nat):AV->Bool
 |.lf _=>true
 |.tup xs=>gY k xs
 |.cv _ x=>x.gk k
 |.obj i=>decide (i<k)
 |.top _=>true
noncomputable def gY(k:Nat):List AV->Bool
 |[]=>true
 |x::xs=>x.gk k&&gY k xs
end
section
theorem cZ(xs):dE a xs=xs.map (AV.ed a):=by
 induction xs with
 |nil=>rfl
 |cons x xs b=>show x.ed a::dE a xs=_;refine eL b ?_;rfl
noncomputable abbrev Om.small(Ω:Om)(a:Nat->Nat)(k:Nat):Om:=⟨fun i=>Ω.ρ (a i),k,Ω.s⟩
structure Inj(ι:Nat->Nat)(k:Nat)(Ω cb:Om):Prop where
 lt:∀i,i<k->ι i<cb.n
 at_:∀i,i<k->cb.ρ (ι i)=Ω.ρ i
 heap:cb.h=Ω.h
theorem Ai(h:gY k xs=true){i:Nat}(e:xs[i]?=some x):x.gk k=true:=by
 induction xs generalizing i with
 |nil=>exact cX e
 |cons y ys a=>
  have h:=ab.mp h;rcases i with _|i
  .clear a;(injection e with b;subst b);exact h.1
  .exact a h.2 e
theorem VR.grow(j:Inj b k Ω cb)(r:VR C Ω x v):x.gk k=true->VR C cb (x.ed b) v:=by
 induction r with
 |lf x v q=>exact fun _=>.lf _ _ q
 |tup xs o a e l s _ d=>
  intro c;show VR C cb (.tup (dE b xs)) _;refine eL (cZ ..) (.tup _ o a (eL j.heap e) (eL (aj ..) l) (eL (aj ..) s) fun i y u h m=>(bW (aQ.mp (eR aH h)) fun x g n=>?_));clear h e l s q j;subst n;exact d i x u g m (Ai c g)
 |cv f a x v e _ d=>exact fun c=>.cv f a _ v (eL j.heap e) (d c)
 |obj i hi=>exact fun c=>have c:i<k:=ax c;j.at_ i c▸.obj (b i) (j.lt i c)
 |top v=>exact fun _=>.top v
theorem VR.shrink(c:∀i,h i<Ω.n->i<k)(r:VR C Ω y v):∀ {x},y=x.ed h->VR C (Ω.small h k) x v:=by
 induction r with
 |lf l v q=>
  intro x e;clear c;rcases x with x|xs|⟨f,x⟩|i|u
  .have e:=e;(injection e with b;subst b);exact .lf _ _ q
  .exact (AV.noConfusion (e))
  .exact (AV.noConfusion (e))
  .exact (AV.noConfusion (e))
  .exact (AV.noConfusion (e))
 |tup ys t a e l s _ d=>
  intro x z;clear q c;rcases x with x|xs|⟨f,x⟩|i|u
  .exact (AV.noConfusion (z))
  ·(injection (z) with b;subst b)
   rw [cZ] at l s d;rw [aj] at l s;exact .tup xs t a e l s fun i x u o m=>d i (x.ed h) u (by refine eL aH (eL o ?_);rfl) m rfl
  .exact (AV.noConfusion (z))
  .exact (AV.noConfusion (z))
  .exact (AV.noConfusion (z))
 |cv f a y v e _ d=>
  intro x z;clear q c;rcases x with x|xs|⟨g,x⟩|i|u
  .exact (AV.noConfusion (z))
  .exact (AV.noConfusion (z))
  .injection (z) with p A
   subst p;exact .cv f a x v e (d A)
  .exact (AV.noConfusion (z))
  .exact (AV.noConfusion (z))
 |obj i hi=>
  intro x z;clear y;rcases x with x|xs|⟨f,x⟩|j|u
  .exact (AV.noConfusion (z))
  .exact (AV.noConfusion (z))
  .exact (AV.noConfusion (z))
  .have z:=z;(injection z with b;subst b);exact VR.obj j (c j hi)
  .exact (AV.noConfusion (z))
 |top u=>
  intro x z;clear y c;rcases x with x|xs|⟨f,x⟩|i|w
  .exact (AV.noConfusion (z))
  .exact (AV.noConfusion (z))
  .exact (AV.noConfusion (z))
  .exact (AV.noConfusion (z))
  .have z:=z;(injection z with b;subst b);exact .top u
end
def cE(a:Nat->Nat)(es:List (Str×AV)):List (Str×AV):=es.map fun p=>(p.1,p.2.ed a)
def AO.ed(a:Nat->Nat)(o:AO):AO:=match o with
 |.list xs=>.list (dE a xs)
 |.dict es=>.dict (cE a es)
 |.inst c as=>.inst c (cE a as)
 |.dy o xs=>.dy o (dE a xs)
 |.fK xs k zs=>.fK (dE a xs) k (dE a zs)
structure Sub(ι:Nat->Nat)(σ τ:St):Prop where
 loc:σ.loc=cE ι τ.loc
 obj:∀i o,τ.obj[i]?=some o->σ.obj[ι i]?=some (o.ed ι)
 inj:∀i j,i<τ.obj.length->j<τ.obj.length->ι i=ι j->i=j
 out:∀i,ι i<σ.obj.length->i<τ.obj.length
def mO(k:Nat)(es:List (Str×AV)):Bool:=es.all fun p=>p.2.gk k
def AO.gk(k:Nat)(o:AO):Bool:=match o with
 |.list xs=>gY k xs
 |.dict es=>mO k es
 |.inst _ as=>mO k as
 |.dy _ xs=>gY k xs
 |.fK xs _ zs=>gY k xs&&gY k zs
section
theorem Bc(a:∀v,f (.top v)=.top v)(l):(kD l).map f=kD l:=by
 induction l with
 |vals b=>exact(bh ..).trans (bG fun v _=>a v)
 |_=>rfl
theorem oW{zs:List AV}:dE a (xs++(kD l++zs))=dE a xs++(kD l++dE a zs):=by
 rw [cZ,cZ,cZ,aO,aO,Bc fun _=>rfl]
theorem eC(xs):gY k xs=xs.all (AV.gk k):=by
 induction xs with
 |nil=>rfl
 |cons x xs a=>exact az (x.gk k && ·) a
theorem Jz(h:(gY k xs&&gY k zs)=true):gY k (xs++(kD l++zs))=true:=by
 have h:=ab.mp h;have e:(kD l).all (AV.gk k)=true:=by
  induction l with
  |vals c=>exact ak.mpr fun x a=>by(refine bW (bL.mp a) fun v _ b=>?_;subst b);rfl
  |_=>rfl
 rw [eC,eC] at h;refine eL (eC ..) (eL all_append (eL all_append (eL h.1 (eL h.2 (eL e ?_)))));rfl
theorem ij(x)(l):(cE a l).lookup x=(l.lookup x).map (AV.ed a):=by
 induction l with
 |nil=>rfl
 |cons p l b=>
  show List.lookup x ((p.1,p.2.ed a)::cE a l)=_;refine eL aY (eL aY ?_);rcases x==p.1 with _|_
  .exact b
  .rfl
theorem de.shrink(c:∀i,a i<Ω.n->i<k)(r:de C Ω (dE a xs) e):de C (Ω.small a k) xs e:=by
 rw [cZ] at r;exact⟨by have:=r.len;rw [aj] at this;exact this,fun i x u b d=>(r.at_ i (x.ed a) u (by refine eL aH (eL b ?_);rfl) d).shrink c rfl⟩
theorem gz.shrink(f:∀i,h i<Ω.n->i<k)(r:gz C Ω a d (o.ed h)):gz C (Ω.small h k) a d o:=by
 rcases o with xs|es|⟨c,as⟩|⟨o,xs⟩|⟨xs,i,zs⟩
 .refine cw r fun b k e q l=>?_;exact(dJ b k ⟨e,q.shrink f,by rw [cZ,aj] at l;exact l⟩)
 .refine cS r fun m e q l=>?_;exact⟨m,e,F2.AK (fun _ _ z=>⟨z.1,z.2.shrink f rfl⟩) q,by unfold cE at l;rw [aj] at l;exact l⟩
 ·(refine fq r fun ne e g=>?_;refine cw g fun j k p q l=>?_);exact⟨ne,e,j,k,p,F2.AK (fun _ _ z=>⟨z.1,z.2.shrink f rfl⟩) q,by unfold cE at l;rw [aj] at l;exact l⟩
 ·(refine bY r fun e g=>?_;refine cS g fun b k q l=>?_);exact⟨e,b,k,q.shrink f,by rw [cZ,aj] at l;exact l⟩
 .refine cw r fun b n e q l=>?_;rw [<-oW] at q l;rw [cZ,aj] at l;exact(dJ b n ⟨e,q.shrink f,l⟩)
theorem Rel.shrink(r:Rel C L Ω σ)(s:Sub c σ f):Rel C L (Ω.small c f.obj.length) f:=by
 have g:=fun i h=>s.out i (r.n▸h)
 have lt:=fun i h=>r.lt (s.obj i _ (ao h))
 exact cS (r.fr) fun m k a b=>⟨rfl,⟨m,k,fun x av e=>((a x (av.ed c) (by refine eL s.loc (eL (ij ..) (eL e ?_));rfl)).imp fun _ z=>⟨z.1,z.2.shrink g rfl⟩),fun x e=>(b x (by refine eL s.loc (eL (ij ..) (eL e ?_));rfl))⟩,fun i o e=>(r.ob (c i) _ (s.obj i o e)).shrink g,fun i j hi d ne=>r.inj _ _ (lt i hi) (lt j d) fun z=>ne (s.inj i j hi d z),fun i hi=>r.eu _ (lt i hi),r.old,r.uK,fun i hi=>r.lo _ (lt i hi),fun i hi=>r.hi _ (lt i hi),r.toks⟩
theorem de.grow(j:Inj e k Ω cb)(r:de C Ω xs g)(c:gY k xs=true):de C cb (dE e xs) g:=by
 refine eL (cZ ..) ⟨by exact eL (aj ..) r.len,fun i y u b f=>(bW (aQ.mp (eR aH b)) fun x a d=>?_)⟩;clear b;subst d;exact(r.at_ i x u a f).grow j (Ai c a)
theorem F2.NM{Q:Str×AV->β->Prop}(q:∀p b,p.2.gk k=true->P p b->Q (p.1,p.2.ed d) b):∀ {es} {bs},F2 P es bs->mO k es=true->F2 Q (cE d es) bs:=by
 intro es bs h;induction h with
 |nil=>exact fun _=>.nil
 |cons h _ a=>exact fun c=>have c:=ab.mp c;.cons (q _ _ c.1 h) (a c.2)
theorem gz.grow(j:Inj h k Ω cb){a d:Nat}{o:AO}(r:gz C Ω a d o)(c:o.gk k=true):gz C cb a d (o.ed h):=by
 rcases o with xs|es|⟨s,as⟩|⟨o,xs⟩|⟨xs,i,zs⟩
 .refine cw r fun b n e q l=>?_;exact(dJ b n ⟨j.heap▸e,q.grow j c,eL (cZ ..) (eL (aj ..) l)⟩)
 .refine cS r fun m e q l=>?_;exact⟨m,j.heap▸e,F2.NM (fun _ _ c z=>⟨z.1,z.2.grow j c⟩) q c,by exact eL (aj ..) l⟩
 ·(refine fq r fun ne e f=>?_;refine cw f fun g n p q l=>?_);exact⟨ne,j.heap▸e,g,n,j.heap▸p,F2.NM (fun _ _ c z=>⟨z.1,z.2.grow j c⟩) q c,by exact eL (aj ..) l⟩
 ·(refine bY r fun e f=>?_;refine cS f fun b n q l=>?_);exact⟨j.heap▸e,b,n,q.grow j c,eL (cZ ..) (eL (aj ..) l)⟩
 .refine cw r fun b n e q l=>?_;exact(dJ b n ⟨j.heap▸e,oW▸q.grow j (Jz c),eR oW (eL (cZ ..) (eL (aj ..) l))⟩)
theorem Hr.shrink{F:Fm}(H:Hr C F Ω σ)(s:Sub c σ a)(b:σ.sc=a.sc)(hd:σ.dep=a.dep):Hr C F (Ω.small c a.obj.length) a:=⟨H.rel.shrink s,hd▸H.room,b▸H.env⟩
end
noncomputable def NQ(v u:Value):Bool:=match v with
 |.ref a=>match u with
  |.ref b=>a==b
  |_=>false
 |_=>false
mutual
noncomputable def AV.yL:AV->AV->Bool
 |.lf x,y=>match y with |.lf z=>x.yL z|_=>false
 |.tup xs,y=>match y with |.tup ys=>qw xs ys|_=>false
 |.cv f x,y=>match y with |.cv g z=>(f==g)&&x.yL z|_=>false
 |.obj i,y=>match y with |.obj j=>i==j|_=>false
 |.top v,y=>match y with |.top u=>NQ v u|_=>false
noncomputable def qw:List AV->List AV->Bool
 |[],y=>y.isEmpty
 |x::xs,y=>match y with|[]=>false|z::zs=>x.yL z&&qw xs zs
end
noncomputable def ji:List (Str×AV)->List (Str×AV)->Bool
 |[],y=>y.isEmpty
 |x::xs,y=>match y with|[]=>false|z::zs=>((x.1==z.1)&&x.2.yL z.2)&&ji xs zs
def AO.yL(x y:AO):Bool:=match x with
 |.list xs=>match y with |.list ys=>qw xs ys|_=>false
 |.dict xs=>match y with |.dict ys=>ji xs ys|_=>false
 |.inst c xs=>match y with |.inst d ys=>(c==d)&&ji xs ys|_=>false
 |.dy ..=>false
 |.fK xs k zs=>match y with |.fK ys l a=>qw xs ys&&((k==l)&&qw zs a)|_=>false
structure Ent where
 f:Addr
 loc:List (Str×AV)
 at_:List Nat
 obj:List AO
 dep:Nat
 fl:Fl
 dm:List AO
 args:Option (List AV)
def Fl.ed(a:Nat->Nat)(f:Fl):Fl:=match f with
 |.ret v=>.ret (v.ed a)
 |f=>f
def Fl.gk(k:Nat)(f:Fl):Bool:=match f with
 |.ret v=>v.gk k
 |_=>true
noncomputable def gV(l:List Nat)(j:Nat):Option Nat:=l.findIdx? (· ==j)
noncomputable def Ent.num(e:Ent)(n i:Nat):Nat:=(e.at_[i]?).getD (n+(i-e.at_.length))
def Ent.MD(e:Ent):Bool:=((e.at_.length==e.obj.length)&&(e.at_.length==e.dm.length))&&(e.at_.zipIdx.all (fun p=>gV e.at_ p.1==some p.2)&&(e.fl.gk e.at_.length&&e.dm.all fun o=>o.gk e.at_.length))
def Ent.Sk(e:Ent)(obj:List AO):Bool:=(e.at_.zip e.obj).all fun p=>dg (obj[p.1]?) (fun o=>(p.2.ed (e.num obj.length)).yL o) false
def Ent.hit(e:Ent)(f:Addr)(σ:St):Bool:=(e.args.isNone&&(e.f==f))&&((e.dep==σ.dep)&&(ji (cE (e.num σ.obj.length) e.loc) σ.loc&&e.Sk σ.obj))
def Ent.kQ(e:Ent)(f:Addr)(d:Nat)(args:List AV):Bool:=(e.f==f)&&((e.dep==d)&&dg e.args (fun as=>qw as args) false)
def Ent.put(e:Ent)(l:List AO):List AO:=l.zipIdx.map fun p=>dg ((gV e.at_ p.2).bind (e.dm[·]?)) (·.ed (e.num l.length)) p.1
structure PE(C:Ctx)(L:Nat)(Ω mY:Om)(dm:List AO)(fl:Fl)(a:Flow):Prop where
 w:W L Ω mY
 ob:∀(i:Nat) (o:AO),dm[i]?=some o->gz C mY (mY.ρ i).1 (mY.ρ i).2 o
 old:∀(b:Nat) o,C.h₀.get? b=some o->mY.h.get? b=some o
 toks:mY.s.toks≠0
 fl:mX C mY fl a
def cG(C:Ctx)(b:List Stmt)(σ:St)(fl:Fl)(dm:List AO):Prop:=∀F Ω,Hr C F Ω σ->wpAny C.M F.A (execs b F.env) (fun a s'=>∃c,PE C F.L Ω c dm fl a/\c.s=s') no Ω.s
theorem FZ(h:NQ v u=true):v=u:=by
 induction v with
 |ref a=>cases u with
  |ref b=>obtain rfl:=aC.mp (h:(a==b)=true);rfl
  |_=>exact(aA h).elim
 |_=>exact(aA h).elim
mutual
theorem AV.gI:∀x y:AV,x.yL y=true->x=y
 |.lf x,y,h=>by rcases y with⟨⟩<;>first|rw [Mine.gI h]|exact(jD h)
 |.tup xs,y,h=>by rcases y with⟨⟩<;>first|rw [jj xs _ h]|exact(jD h)
 |.cv f x,y,h=>by rcases y with⟨⟩<;>first|(have h:=ab.mp h;rw [aC.mp h.1,AV.gI x _ h.2])|exact(jD h)
 |.obj i,y,h=>by rcases y with⟨⟩<;>first|rw [aC.mp (h:(i==_)=true)]|exact(jD h)
 |.top v,y,h=>by rcases y with⟨⟩<;>first|rw [FZ h]|exact(jD h)
theorem jj:∀x y:List AV,qw x y=true->x=y
 |[],y,h=>by rcases y with⟨⟩<;>first|rfl|exact(jD h)
 |x::xs,y,h=>by rcases y with⟨⟩<;>first|(have h:=ab.mp h;rw [AV.gI x _ h.1,jj xs _ h.2])|exact(jD h)
end
theorem iu:∀x y:List (Str×AV),ji x y=true->x=y
 |[],y,h=>by rcases y with⟨⟩<;>first|rfl|exact(jD h)
 |(k,a)::xs,y,h=>by
  rcases y with _|⟨z,zs⟩
  .exact (jD h)
  .obtain ⟨l,c⟩:=z;have h:=ab.mp h;have g:=ab.mp h.1;obtain rfl:=aC.mp g.1;obtain rfl:=AV.gI a _ g.2;exact eL (iu xs _ h.2) rfl
theorem AO.gI{y:AO}(h:x.yL y=true):x=y:=by
 rcases x with _|_|⟨_,_⟩|⟨_,_⟩|⟨_,_,_⟩
 .induction y with
  |list=>exact az AO.list (jj _ _ h)
  |_=>exact(aA h).elim
 .induction y with
  |dict=>exact az AO.dict (iu _ _ h)
  |_=>exact(aA h).elim
 .induction y with
  |inst=>
   have h:=ab.mp h;obtain rfl:=aC.mp h.1;exact az (AO.inst _) (iu _ _ h.2)
  |_=>exact(aA h).elim
 .exact (aA h).elim
 .induction y with
  |fK=>
   have h:=ab.mp h;have a:=ab.mp h.2;obtain rfl:=jj _ _ h.1;clear h;obtain rfl:=jj _ _ a.2;clear h;obtain rfl:=aC.mp a.1;rfl
  |_=>exact(aA h).elim
theorem rK(h:gV l j=some i):l[i]?=some j:=by
 refine bW (List.findIdx?_eq_some_iff_getElem.mp h) fun hi a _=>?_;exact eL (ao hi) (eL (aC.mp a) rfl)
structure mQ(at_:List Nat)(obj big:List AO)(ι:Nat->Nat):Prop where
 len:at_.length=obj.length
 pos:∀i j,at_[i]?=some j->gV at_ j=some i
 obj:∀(i j:Nat) o,at_[i]?=some j->obj[i]?=some o->big[j]?=some (o.ed ι)
section
variable{e:Ent}{i:Nat}{obj:List AO}
theorem zK(a:e.at_.length=e.obj.length)(hp:(e.at_.zipIdx.all fun p=>gV e.at_ p.1==some p.2)=true)(h:e.Sk obj=true):mQ e.at_ e.obj obj (e.num obj.length):=by
 refine⟨a,fun i j q=>aC.mp (ak.mp hp (j,i) (mem_zipIdx_iff_getElem?.mpr q)),fun i j o b c=>?_⟩;have q:=ak.mp h (j,o) (aR (by rw [List.getElem?_zip_eq_some];exact⟨b,c⟩));rcases g:obj[j]? with _|o'
 .rw [g] at q;exact(aA q).elim
 .rw [g] at q;rw [AO.gI (q)]
theorem ki(q:e.at_[i]?=some j)(n):e.num n i=j:=by unfold Ent.num;refine eL q ?_;rfl
theorem yN(h:e.at_.length<=i)(n):e.num n i=n+(i-e.at_.length):=by unfold Ent.num;refine eL (aT h) ?_;rfl
theorem mQ.lt{at_:List Nat}{big:List AO}(h:mQ at_ obj big a)(q:at_[i]?=some j):j<big.length:=
 have hi:=h.len▸(au.mp q).1
 (au.mp (h.obj i j _ q (ao hi))).1
theorem mQ.sub{loc:List (Str×AV)}{big:List AO}(h:mQ e.at_ obj big (e.num big.length))(l:loc=cE (e.num big.length) es):Sub (e.num big.length) ⟨sc,loc,big,d⟩ ⟨sc,es,obj,d⟩:=by
 have at_:∀i,i<obj.length->∃j,e.at_[i]?=some j:=fun i hi=>⟨_,ao (h.len▸hi)⟩
 refine⟨l,fun i o q=>?_,fun i j hi k z=>?_,fun i hi=>?_⟩
 .refine cN (at_ i (au.mp q).1) fun j f=>?_;exact eL (ki f ..) (h.obj i j o f q)
 .refine cN (at_ i hi) fun a c=>(cN (at_ j k) fun b hb=>?_)
  rw [ki c,ki hb] at z;exact bB ((h.pos i a c).symm.trans (z▸h.pos j b hb))
 .rcases aV i e.at_.length with g|g
  .exact h.len▸g
  .rw [yN g] at hi;exact absurd hi (fun m=>cC 0x15F0C10 tt hi)
structure WA(e:Ent):Prop where
 len:e.at_.length=e.obj.length
 Zg:e.at_.length=e.dm.length
 pos:(e.at_.zipIdx.all fun p=>gV e.at_ p.1==some p.2)=true
 fl:e.fl.gk e.at_.length=true
 obj:∀(i:Nat) o,e.dm[i]?=some o->o.gk e.at_.length=true
theorem IS(h:e.MD=true):WA e:=by
 have h:=ab.mp h;have a:=ab.mp h.1;have c:=ab.mp h.2;have b:=ab.mp c.2;exact⟨aC.mp a.1,aC.mp a.2,c.1,b.1,fun i o q=>ak.mp b.2 o (aR q)⟩
theorem xx(a:j<obj.length):(e.put obj)[j]?=(obj[j]?).map fun o=>dg ((gV e.at_ j).bind (e.dm[·]?)) (·.ed (e.num obj.length)) o:=by
 refine eL aH (eL List.getElem?_zipIdx (eL (Option.map_map ..) (eL (Nat.zero_add ..) ?_)));rfl
theorem sV:(e.put obj).length=obj.length:=by unfold Ent.put;exact eL (aj ..) (eL List.length_zipIdx rfl)
theorem mX.grow(J:Inj b k Ω cb)(q:mX C Ω f g)(c:f.gk k=true):mX C cb (f.ed b) g:=by
 induction q with
 |ret a v q=>exact .ret _ v (q.grow J c)
 |next=>exact .next
 |brk=>exact .brk
 |cont=>exact .cont
theorem Ent.ZG{L:Nat}{x:Heap}(fn:WA e)(P:mQ e.at_ e.obj σ.obj (e.num σ.obj.length))(r:Rel C L Ω σ)(D:Ω.h.get? M=none)(A:Ω.s.toks<=t)(k:∀b o,Ω.h.get? b=some o->x.get? b=some o)
  (p:PE C M ((Ω.mv x t).small (e.num σ.obj.length) e.obj.length) c e.dm e.fl a):
  W L Ω ⟨Ω.ρ,Ω.n,c.s⟩/\Rel C L ⟨Ω.ρ,Ω.n,c.s⟩ ⟨σ.sc,σ.loc,e.put σ.obj,σ.dep⟩/\Inj (e.num σ.obj.length) e.at_.length c ⟨Ω.ρ,Ω.n,c.s⟩:=by
 have w:=p.w;have own:∀i,i<e.at_.length->∃j,e.at_[i]?=some j/\j<Ω.n/\e.num σ.obj.length i=j:=fun i hi=>have q:=ao hi;⟨_,q,r.n▸P.lt q,ki q _⟩
 have keep:∀b o,Ω.h.get? b=some o->(∀j,j<Ω.n->gV e.at_ j≠none->b≠(Ω.ρ j).1/\b≠(Ω.ρ j).2)->c.h.get? b=some o:=fun b o q no=>w.keep b o (k b o q) (bX q D) fun i hi=>by
  refine cS (own i (fn.len▸hi)) fun j l v u=>?_;show b≠(Ω.ρ (e.num σ.obj.length i)).1/\b≠(Ω.ρ (e.num σ.obj.length i)).2
  exact eL u (no j v (eL (P.pos i j l) (fun z=>Cm z)))
 have f:W L Ω ⟨Ω.ρ,Ω.n,c.s⟩:=⟨ah _,fun _ _=>rfl,fun _ a b=>absurd b (Nat.not_lt.mpr a),fun b o q=>w.alive b o (k b o q),fun b o q _ no=>keep b o q fun j d _=>no j d,fun b o q=>w.ru b o (k b o q),(gv.mk' A).trans w.sm⟩;have J:Inj (e.num σ.obj.length) e.at_.length c ⟨Ω.ρ,Ω.n,c.s⟩:=⟨fun i hi=>by
  refine cS (own i hi) fun j _ v u=>?_;exact eL u v,fun i hi=>(w.same i (fn.len▸hi)).symm,rfl⟩
 refine⟨f,⟨sV.trans r.n,r.fr.mono f.mo fun o q=>keep L o q fun j d _=>r.eu j d,fun j o q=>?_,r.inj,r.eu,p.old,r.uK,r.lo,fun i hi=>⟨(r.hi i hi).1.elim fun o=>f.alive _ o,(r.hi i hi).2.elim fun o=>f.alive _ o⟩,p.toks⟩,J⟩;have d:=sV▸(au.mp q).1;have q:=q;rw [xx d,ao d] at q;rcases hp:gV e.at_ j with _|i
 .rw [hp] at q;have q:=(ao d).trans q;have a:∀i,i<Ω.n->gV e.at_ i≠none->iU (Ω.ρ j) (Ω.ρ i):=fun i hi z=>r.inj j i (r.lt q) hi fun y=>z (y▸hp)
  exact(r.ob j o q).mono f.mo (fun ob z=>keep _ ob z fun i hi n=>⟨(a i hi n).1,(a i hi n).2.1⟩) fun ob z=>keep _ ob z fun i hi n=>⟨(a i hi n).2.2.1,(a i hi n).2.2.2⟩
 .have l:=rK hp;have hi:=(au.mp l).1;have m:=fn.Zg▸hi;rw [hp,show((some i).bind (e.dm[·]?))=e.dm[i]? from rfl,ao m] at q
  (injection q with B;subst B)
  have g:=(p.ob i _ (ao m)).grow J (fn.obj i _ (ao m));rw [<-J.at_ i hi,ki l] at g;exact g
end
noncomputable def LO(K:Frag)(a:FuncData):Bool:=
 a.params.posonlyargs.isEmpty&&(a.params.kwonlyargs.isEmpty&&(a.params.vararg.isNone&&(a.params.kwarg.isNone&&(!a.scope.isCoroutine&&(a.scope.kind==.function &&
 (a.scope.names.all (fun x=>x.2 !=.cell)&&(a.params.args.all (fun p=>a.scope.names.lookup p.arg==some .local)&&(codeIn K a.code a.qualname&&(a.globals==mainGlobals&&a.builtins==builtinsNs)))))))))
noncomputable def xU(o:Obj):Option FuncData:=match o.data with
 |.func a=>some a
 |_=>none
noncomputable def IT:FuncBody->Option (List Stmt)
 |.stmts b=>some b
 |_=>none
def fnAt(K:Frag)(f:Addr):Option (FuncData×List Stmt):=(K.lookup f).bind fun o=>(xU o).bind fun a=>(IT a.body).bind fun b=>bif LO K a then some (a,b) else none
noncomputable def Mr:Value->Bool
 |.none=>true
 |_=>false
def defsOf(K:Frag)(v:Value):Option (List AV):=bif Mr v then some [] else(refOf v).bind fun d=>EP (cM K d)
noncomputable def rA:Fl->Option AV
 |.ret v=>some v
 |.next=>some (.lf .none)
 |_=>none
structure Bd where
 es:List Ent
 run:List Stmt->I Fl
def jd(K:Frag)(B:Bd)(d:Nat)(f:Addr)(args:List AV)(a:List (Str×AV)):I AV:=fun σ=>dg (bif a.isEmpty&&fnIn K f then B.es.find? fun e=>e.kQ f d args else none) (fun e=>(rA e.fl).map (·,σ))<|(fnAt K f).bind fun p=>bif !p.1.scope.isGenerator then(defsOf K p.1.defaults).bind fun b=>
 (mw (p.1.params.args.map (·.arg)) b args a).bind fun bs=>dg (B.es.find? fun e=>e.hit f ⟨p.1.scope,bs.reverse,σ.obj,d⟩) (fun e=>(rA (e.fl.ed (e.num σ.obj.length))).map fun v=>(v,⟨σ.sc,σ.loc,e.put σ.obj,σ.dep⟩))
  ((B.run p.2 ⟨p.1.scope,bs.reverse,σ.obj,d⟩).bind fun r=>(rA r.1).map fun v=>(v,⟨σ.sc,σ.loc,r.2.obj,σ.dep⟩)) else none
structure jL(A:Around)(d:Nat):Prop where
 depth:A.depth+2*d<=990
 units:A.units+30*d<=9020
 handled:A.handled=none
set_option backward.match.sparseCases true in
abbrev Back(Q:Value->Shared->Prop):Result->Shared->Prop:=fun r s'=>match r with |.ok (.ret v)=>Q v s' |.ok _=>False |.error _=>False
section
variable{C:Ctx}{F:Fm}{Ω cj:Om}{σ τ:St}{v u z:Value}{a b o i:AV}{name:Str}{A:Around}
theorem jL.deeper(r:jL A (d+1))(env):oL (A.deeper env) d:=⟨by have:=r.depth;exact cC 0x10FEBDB3B8CD1AC904FEBDB3B8CDC91A0 tt this,by have:=r.units;exact cC 0x10F8B2B3BACD1EB9C3B804FCB3B3BACDC91EB90 tt this,r.handled⟩
theorem F2.reverse(h:F2 P as bs):F2 P as.reverse bs.reverse:=by
 induction h with
 |nil=>exact .nil
 |cons h _ c=>exact eL reverse_cons (eL reverse_cons (F2.append c (.cons h .nil)))
theorem OR.UX(h:OR C Ω (Option.some a) y):∃v,y=Option.some v/\VR C Ω a v:=by cases h;exact⟨_,rfl,by assumption⟩
theorem OR.HB(h:OR C Ω Option.none y):y=Option.none:=by cases h;rfl
theorem nh.of(r:fW C Ω es c)(d:Ω.h.Ns L (fun x=>c.lookup x)):nh C Ω L es:=
 ⟨_,d,fun x _ e=>(e▸fW.look r x).UX,fun x e=>(e▸fW.look r x).HB⟩
theorem Rel.enter(r:Rel C F.L Ω σ){c:Heap}(f:Ω.s.toks<=t)(q:fW C Ω es w)(l:c.Ns Ω.h.objs.size (fun x=>w.lookup x))(k:∀b o,Ω.h.get? b=some o->c.get? b=some o)(sc)(d):
  Rel C Ω.h.objs.size (Ω.mv c t) ⟨sc,es,σ.obj,d⟩:=by
 have g:=r.grown f k;have e:=cK Ω.h (ah _);exact⟨g.n,nh.of (q.mono fun _ _ z=>⟨z.1,z.2.mono (W.grown f k:W F.L Ω (Ω.mv c t))⟩) l,g.ob,g.inj,fun i hi=>by(refine bY (r.hi i hi) fun p y=>?_;obtain⟨D,j⟩:=p;refine cN y fun B m=>?_);exact⟨(bX j e).symm,(bX m e).symm⟩,g.old,
  (match q:C.h₀.get? Ω.h.objs.size with|none=>rfl|some o=>cX (e.symm.trans (r.old _ o q))),g.lo,g.hi,g.toks⟩
theorem W.leave(f:Ω.s.toks<=t)(e:Ω.h.get? M=none)(k:∀b o,Ω.h.get? b=some o->d.get? b=some o)(w:W M (Ω.mv d t) cb):W L Ω cb:=
 have back:∀c,d.get? c=none->Ω.h.get? c=none:=fun c g=>match q:Ω.h.get? c with|none=>rfl|some o=>cX (g.symm.trans (k c o q))
 ⟨w.le,w.same,fun i a b=>⟨back _ (w.fresh i a b).1,back _ (w.fresh i a b).2⟩,fun b o q=>w.alive b o (k b o q),fun b o q _ no=>w.keep b o (k b o q) (bX q e) no,fun b o q=>w.ru b o (k b o q),(gv.mk' f).trans w.sm⟩
theorem Rel.leave(r:Rel C F.L Ω σ){cb:Om}{M:Nat}(e:Ω.h.get? M=none)(w:W M Ω cb)(c:Rel C M cb τ)(sc)(d):W F.L Ω cb/\Rel C F.L cb ⟨sc,σ.loc,τ.obj,d⟩:=by
 have w':W F.L Ω cb:=W.leave (ah _) e (fun _ _ q=>q) w;refine⟨w',c.n,r.fr.mono w'.mo fun o q=>w.keep _ _ q (bX q e) r.eu,c.ob,c.inj,fun i hi=>?_,c.old,r.uK,c.lo,c.hi,c.toks⟩;rcases aV i Ω.n with q|q
 .exact eL (w'.same i q) (r.eu i q)
 .exact cN (r.lM) fun o x=>⟨bX x (w'.fresh i q hi).1,bX x (w'.fresh i q hi).2⟩
theorem nz(G:Good C)(keep:∀b o,C.h₀.get? b=some o->Ω.h.get? b=some o)(v):OP (defsOf C.K v) fun l=>∃bT,(∀M A E Q,Q bT Ω.s->wpAny M A (seqItems? v) Q E Ω.s)/\de C Ω l (bT.getD #[]).toList:=by
 induction v with
 |none=>exact⟨none,fun M A E Q q=>aL q,.nil⟩
 |ref d=>
  refine .intro fun xs e=>?_;have hw:cM C.K d=.tup xs:=by
   cases f:cM C.K d<;>rw [show defsOf C.K (.ref d)=EP (cM C.K d) from rfl,f] at e<;>first|exact cX e|((injection e with j;subst j);rfl)
  refine bY (iI G hw) fun g _=>?_;obtain⟨c,⟨o,ho,m,k,hd⟩,r⟩:=g
  exact⟨some c.toArray,fun M A E Q q=>wpAny_seqItems (keep _ _ ho) hd q,(de.nC G.lI c).of r⟩
 |_=>trivial
def BodyOk(C:Ctx)(fL:List Stmt->I Fl):Prop:=∀F Ω b,Sm C F Ω (execs b F.env) (fL b) (QF C)
structure v7(K:Frag)(f:Addr)(p:FuncData×List Stmt):Prop where
 ex:∃o,K.lookup f=some o/\o.data=.func p.1
 body:p.1.body=.stmts p.2
 ok:LO K p.1=true
theorem pe{K:Frag}(f):OP (fnAt K f) (v7 K f):=.bind (.intro fun o e1=>.bind (.intro fun e e2=>.bind (.intro fun b d=>.bif fun h=>⟨⟨o,e1,by
  unfold xU at e2;cases hd:o.data<;>rw [hd] at e2<;>first|exact cX e2|((injection e2 with c;subst c);rfl)⟩,by
  cases hd:e.body<;>rw [hd] at d<;>first|exact cX d|((injection d with c;subst c);rfl),h⟩)))
structure Jy(K:Frag)(fd:FuncData):Prop where
 ps:fd.params=⟨[],fd.params.args,none,[],fd.params.kw_defaults,none,fd.params.defaults⟩
 co:fd.scope.isCoroutine=false
 kind:fd.scope.kind=.function
 cells:∀x∈fd.scope.names,x.2≠.cell
 locs:∀p∈fd.params.args,fd.scope.names.lookup p.arg=some .local
 code:codeIn K fd.code fd.qualname=true
 gl:fd.globals=mainGlobals
 bl:fd.builtins=builtinsNs
theorem qg{K:Frag}(h:LO K fd=true):Jy K fd:=by
 unfold LO at h;rw [aW,aW,aW,aW,aW,aW,aW,aW,aW,aW] at h;obtain⟨d,e,c,f,j,g,k,m,q,n,l⟩:=h;refine⟨?_,(bM _).mp j,aC.mp g,fun x r=>bne_iff_ne.mp (ak.mp k x r),fun p hp=>aC.mp (ak.mp m p hp),q,aC.mp n,aC.mp l⟩;revert d e c f;generalize fd.params=P;clear j g k m q n l;obtain⟨po,as,t,y,kd,w,s⟩:=P;intro d e c f;obtain rfl:=bj.mp d;clear d;obtain rfl:=bj.mp e;clear e;obtain rfl:=isNone_iff_eq_none.mp c;clear c;obtain rfl:=isNone_iff_eq_none.mp f;rfl
theorem jO{b:List (Str×α)}(e:mw ps ds pos kw=some b):∀x∈b,x.1∈ps:=fun x d=>by
 refine bY (pW e) fun _ c=>?_;subst c
 refine bW (List.mem_filterMap.mp d) fun k f e=>(bW (aQ.mp e) fun _ _ c=>?_)
 clear e d;subst c;exact f
set_option backward.match.sparseCases true in
noncomputable def wD(f:Flow):Value:=match f with |.ret v=>v|_=>.none
theorem vx(q:mX C Ω fl f):OP (rA fl) fun a=>VR C Ω a (wD f):=by
 induction q with
 |next=>exact .lf _ _ .none
 |ret a v q=>exact q
 |_=>trivial
def XG(C:Ctx)(e:Ent):Prop:=e.MD=true/\∀p,fnAt C.K e.f=some p->cG C p.2 ⟨p.1.scope,e.loc,e.obj,e.dep⟩ e.fl e.dm
def pd(C:Ctx)(f:Addr)(d:Nat)(args:List AV)(a:AV):Prop:=∀F Ω σ A c,Hr C F Ω σ->jL A (d+1)->de C Ω args c->codeAny C.M A (.call (.ref f) ⟨c,[]⟩) (Back (cW C F Ω σ (QV C) a)) Ω.s
def fR(C:Ctx)(e:Ent):Prop:=(e.args=none->XG C e)/\∀as a,e.args=some as->rA e.fl=some a->pd C e.f e.dep as a
def dT(C:Ctx)(Es:List Ent):Prop:=∀e∈Es,fR C e
structure Bf(C:Ctx)(B:Bd):Prop where
 es:dT C B.es
 run:BodyOk C B.run
theorem cH{o:Option β}(e:dg o f false=true):∃b,o=some b/\f b=true:=by
 rcases o with _|b
 .exact (aA e).elim
 .exact ⟨b,rfl,e⟩
theorem tC{ns:List Str}(c:de C Ω ks d)(h:(ns.zip ks).isEmpty=true):ns.zip d=[]:=by
 rcases ns with _|⟨x,ns⟩
 .rfl
 .induction ks with
  |nil=>obtain rfl:=c.nil_inv;rfl
  |cons k ks=>exact(aA h).elim
set_option backward.match.sparseCases true in
theorem nQ(G:Good C){B:Bd}(t:Bf C B)(H:Hr C F Ω σ){d:Nat}(hr:jL A (d+1)){f:Addr}{ns:List Str}(w:de C Ω args E)(y:de C Ω ks U):
  OP (jd C.K B d f args (ns.zip ks) σ) fun p=>codeAny C.M A (.call (.ref f) ⟨E,ns.zip U⟩) (Back (cW C F Ω p.2 (QV C) p.1)) Ω.s:=by
 refine .dg (fun e c=>.map (.intro fun a n=>?_)) ?_
 .clear G;rcases j:ns.zip ks with _|⟨p,r⟩
  .rw [j] at c;have hf:fnIn C.K f=true:=by
    clear n t H hr w y;cases q:fnIn C.K f with
    |true=>rfl
    |false=>rw [q] at c;exact cX c
   rw [hf] at c;have c:=c;have h:=ab.mp (List.find?_some (p:=fun e:Ent=>e.kQ f d args) c);have g:=ab.mp h.2;refine bW (cH g.2) fun as q1 q2=>?_
   clear hf;obtain rfl:=aC.mp h.1;clear h;obtain rfl:=aC.mp g.1;clear g;obtain rfl:=jj _ _ q2;exact eL (tC y (by refine eL j ?_;rfl)) (((t.es e (List.mem_of_find?_eq_some c)).2 as a q1 n) F Ω σ A E H hr w)
  .rw [j] at c;exact cX c
 refine .bind (.intro fun p hp=>.bif fun hg=>.bind ((nz G H.keep p.1.defaults).mono fun ds hd=>(bW hd fun bT V g2=>(.bind ((ng g2 w y).mono fun bs hb=>(bW hb fun binds e1 e2=>?_))))));have D:=(pe f).of hp;refine bW D.1 fun o ho hd=>?_;have hb:=D.2
 have ok:=D.3;clear D;have Y:=qg ok;have X:C.K.In Ω.h:=fun a o e=>H.keep _ _ (G.lI _ _ e)
 have go:∀ {Z},(∀l m,(∀b o,Ω.h.get? b=some o->m.get? b=some o)->Ω.h.get? l.L=none->Hr C l (Ω.mv m (Ω.s.toks+binds.length)) ⟨p.1.scope,bs.reverse,σ.obj,d⟩->wpAny C.M l.A (execs p.2 l.env) (fun fl s'=>Z (wD fl) s') no (gy Ω.s m (Ω.s.toks+binds.length)))->
   codeAny C.M A (.call (.ref f) ⟨E,ns.zip U⟩) (Back Z) Ω.s:=fun {Z} body=>by
  exact codeAny_call_def (Nat.lt_of_le_of_lt (ag (aK _ _) hr.depth) (by decide)) (X _ _ ho) hd (G.lim.keeps H.keep) (codeRec_of X Y.code) hb (qb Y.ps V e1) Y.cells (fun x hx=>(bW (bL.mp (jO e1 x hx)) fun p hp q=>(q▸Y.locs p hp))) (fun m hn j=>(bu (body ⟨A.deeper (callEnv p.1 Ω.h.objs.size f),callEnv p.1 Ω.h.objs.size f,Ω.h.objs.size⟩ m j (cK _ (ah _)) ⟨(Rel.enter H.rel (aK _ _) (F2.reverse e2) hn j p.1.scope d),hr.deeper _,⟨rfl,Y.kind,rfl,Y.gl,Y.bl⟩⟩) (fun RX s' z=>z) fun _ _ x=>x.elim)) Y.co ((bM _).mp hg) Y.kind
 refine .dg (fun e c=>.map (.intro fun a n=>?_)) (.bind (.intro fun r e=>.map (.intro fun a n=>(go fun l m j N H1=>nu ((t.run l _ p.2 _ .refl _ H1).of e) fun cb RX w' H' q=>(bY (H.rel.leave N (W.trans (W.grown (aK _ _) j) w') H'.rel σ.sc σ.dep) fun S O=>(.in S ⟨O,H.room,H.env⟩ ((vx q).of n)))))))
 .have h:=ab.mp (List.find?_some (p:=fun e:Ent=>e.hit f ⟨p.1.scope,bs.reverse,σ.obj,d⟩) c);have g:=ab.mp h.2;have k:=ab.mp g.2;have T:=ab.mp h.1;refine bY ((t.es e (List.mem_of_find?_eq_some c)).1 (isNone_iff_eq_none.mp T.1)) fun f1 f2=>?_
  have fn:=IS f1;have P:mQ e.at_ e.obj σ.obj (e.num σ.obj.length):=zK fn.len fn.pos k.2;clear f1 h c X Y e1 e2 hb V g2 hg hd G t hr w y;obtain rfl:=aC.mp T.2;clear T hb bT hd;obtain rfl:=(aC.mp g.1);refine go fun l m j N H1=>wp_mono (f2 p hp l ((Ω.mv m (Ω.s.toks+binds.length)).small (e.num σ.obj.length) e.obj.length) (H1.shrink (P.sub (iu _ _ k.1).symm) rfl rfl)) fun RX s' z=>(bW z ?_)
  clear z;intro mY q bV;clear H1 f2 k g go bs hp ds;subst bV;exact fq (Ent.ZG fn P H.rel N (aK _ _) j q) fun S O J=>⟨_,S,⟨O,H.room,H.env⟩,(vx (q.fl.grow J fn.fl)).of n,rfl⟩
end
section
open PySem.SeqAt
noncomputable def ix:Value->Value->Bool
 |.none,.none=>true
 |.bool a,.bool b=>a==b
 |.int a _,.int b _=>decide (a=b)
 |.str a _,.str b _=>a==b
 |_,_=>false
structure Wh(v u:Value)(b:Bool):Prop where
 eq:∀A s,EqAt A s v u b
 rc:∀A s,RcAt A s v u b
 ne:∀A s,RcNeAt A s v u (!b)
 lit:ix v u=b
def CW(Φ:List Fact)(a b:AV):Option Bool:=(iB a).bind fun x=>(iB b).bind fun y=>ff (kH Φ .eq [x,y])
noncomputable def OX(Φ:List Fact)(a:AV):List AV->Option Bool
 |[]=>some false
 |x::r=>(CW Φ x a).bind fun b=>(OX Φ a r).map fun c=>b||c
section
variable{C:Ctx}{F:Fm}{Ω cj:Om}{σ τ:St}{v u z:Value}{a b o i:AV}{x y:bQ}
theorem FH(d:LR x v)(c:LR y u):OP (CO x y) (Wh v u):=by
 induction d with
 |none=>induction c with
  |none=>exact⟨fun _ _=>EqAt.same _,fun _ _=>RcAt.none_none,fun _ _=>RcNeAt.none_none,rfl⟩
  |bool=>exact⟨fun _ _=>EqAt.none_bool _,fun _ _=>RcAt.none_bool _,fun _ _=>RcNeAt.none_bool _,rfl⟩
  |int=>exact⟨fun _ _=>EqAt.none_int _ _,fun _ _=>RcAt.none_int _ _,fun _ _=>RcNeAt.none_int _ _,rfl⟩
  |str=>exact⟨fun _ _=>EqAt.none_str _ _,fun _ _=>RcAt.none_str _ _,fun _ _=>RcNeAt.none_str _ _,rfl⟩
 |bool=>induction c with
  |none=>exact⟨fun _ _=>EqAt.bool_none _,fun _ _=>RcAt.bool_none _,fun _ _=>RcNeAt.bool_none _,rfl⟩
  |bool=>exact⟨fun _ _=>EqAt.bool_bool _ _,fun _ _=>RcAt.bool_bool _ _,fun _ _=>RcNeAt.bool_bool _ _,rfl⟩
  |int=>trivial
  |str=>exact⟨fun _ _=>EqAt.bool_str _ _ _,fun _ _=>RcAt.bool_str _ _ _,fun _ _=>RcNeAt.bool_str _ _ _,rfl⟩
 |int=>induction c with
  |none=>exact⟨fun _ _=>EqAt.int_none _ _,fun _ _=>RcAt.int_none _ _,fun _ _=>RcNeAt.int_none _ _,rfl⟩
  |bool=>trivial
  |int=>exact⟨fun _ _=>EqAt.int_int _ _ _ _,fun _ _=>RcAt.int_int _ _ _ _,fun _ _=>RcNeAt.int_int _ _ _ _,rfl⟩
  |str=>exact⟨fun _ _=>EqAt.int_str _ _ _ _,fun _ _=>RcAt.int_str _ _ _ _,fun _ _=>RcNeAt.int_str _ _ _ _,rfl⟩
 |str=>induction c with
  |none=>exact⟨fun _ _=>EqAt.str_none _ _,fun _ _=>RcAt.str_none _ _,fun _ _=>RcNeAt.str_none _ _,rfl⟩
  |bool=>exact⟨fun _ _=>EqAt.str_bool _ _ _,fun _ _=>RcAt.str_bool _ _ _,fun _ _=>RcNeAt.str_bool _ _ _,rfl⟩
  |int=>exact⟨fun _ _=>EqAt.str_int _ _ _ _,fun _ _=>RcAt.str_int _ _ _ _,fun _ _=>RcNeAt.str_int _ _ _ _,rfl⟩
  |str=>exact⟨fun _ _=>EqAt.str_str _ _ _ _,fun _ _=>RcAt.str_str _ _ _ _,fun _ _=>RcNeAt.str_str _ _ _ _,rfl⟩
theorem rI{o:Option Bool}(h:OP o P):OP (ff (o.map .bool)) P:=by
 rcases o with⟨⟩
 .trivial
 .exact h
theorem uj(G:Good C)(d:VR C Ω a v)(hb:VR C Ω b u):OP (CW C.Φ a b) (Wh v u):=
 .bind ((cI d).mono fun _ c=>.bind ((cI hb).mono fun _ e=>jq G (rI (FH c e))))
theorem Mg(G:Good C)(g:VR C Ω a v):∀ {xs} {f},de C Ω xs f->OP (OX C.Φ a xs) fun b=>(∀A s,∀y,y∈f->EqAt A s y v (ix y v))/\f.any (ix · v)=b:=by
 intro xs;induction xs with
 |nil=>
  intro f r;exact eL r.nil_inv (⟨fun _ _ _ h=>(iS h),rfl⟩)
 |cons x xs j=>
  intro f r;refine cw (r.cons_inv) fun w us k h t=>?_
  clear r;subst k;refine .bind ((uj G h g).mono fun b e=>.map ((j t).mono fun c d=>⟨fun A s y m=>?_,eL any_cons (eL e.lit (eL d.2 rfl))⟩));clear h t x j G g;rcases aU.mp m with rfl|m
  .exact e.lit▸e.eq A s
  .exact d.1 A s y m
def Wf(Φ:List Fact)(a:AV)(xs:List AV):Option Bool:=dg ((iB a).bind fun x=>(ia xs).bind fun ys=>ff (kH Φ .mem (x::ys))) some (OX Φ a xs)
theorem MO(g:LR x v):∀ {ys} {f},F2 LR ys f->OP (oJ x ys) fun b=>(∀A s,∀y,y∈f->EqAt A s y v (ix y v))/\f.any (ix · v)=b:=by
 intro ys f h;induction h with
 |nil=>exact⟨fun _ _ _ h=>(iS h),rfl⟩
 |cons h _ j=>exact .bind ((FH h g).mono fun b e=>.map (j.mono fun c d=>⟨fun A s y m=>by
   clear h j ys f g;rcases aU.mp m with rfl|m
   .exact e.lit▸e.eq A s
   .exact d.1 A s y m,eL any_cons (eL e.lit (eL d.2 rfl))⟩))
theorem BM:∀ {xs} {ys} {c},ia xs=some ys->de C Ω xs c->F2 LR (ys.map C.cn) c:=by
 intro xs;induction xs with
 |nil=>
  intro ys c e r
  (injection e with f;subst f);exact eL r.nil_inv .nil
 |cons x xs j=>
  intro ys c e r;refine cw (r.cons_inv) fun w us d h t=>?_
  clear r;subst d;refine bW (aM.mp e) fun y e1 e2=>(bW (aQ.mp e2) fun l g d=>?_)
  clear e2 e;subst d;exact .cons ((cI h).of e1) (j g t)
theorem Dr(G:Good C)(c:VR C Ω a v)(r:de C Ω xs d):OP (Wf C.Φ a xs) fun b=>(∀A s,∀y,y∈d->EqAt A s y v (ix y v))/\d.any (ix · v)=b:=
 .oe (.bind ((cI c).mono fun x f=>.bind (.intro fun ys e=>(jq G (rI (MO f (BM e r))))))) (Mg G c r)
noncomputable def XA(n:Bool):CmpOp:=bif n then .NotIn else .In
def yR(C:Ctx)(F:Fm)(Ω:Om)(σ:St)(v u:Value)(b:Bool):Prop:=∀n,wpAny C.M F.A (compareOp (XA n) v u) (cW C F Ω σ (QV C) (.lf (.bool (cond n (!b) b)))) no Ω.s
theorem VR.bool{b:Bool}:VR C Ω (.lf (.bool b)) (.bool b):=.lf _ _ (.bool b)
theorem yR.of{b:Bool}(h:wpAny C.M F.A (contains u v) P no Ω.s)(k:∀c s',P c s'->c=b/\∃t,Ω.s.toks<=t/\s'=gy Ω.s Ω.h t)(H:Hr C F Ω σ):yR C F Ω σ v u b:=fun n=>by
 rcases n with⟨⟩
 .exact ai (wp_mono h fun c s' r=>aL (by(refine bY (k c s' r) fun f d=>?_;subst f;refine bW d ?_;clear d;intro t g e;subst e);exact .now H g .bool))
 .exact ai (wp_mono h fun c s' r=>aL (by(refine bY (k c s' r) fun f d=>?_;subst f;refine bW d ?_;clear d;intro t g e;subst e);exact .now H g .bool))
theorem Wu(G:Good C)(H:Hr C F Ω σ)(f:VR C Ω a v)(h:yA C Ω xs u):OP (Wf C.Φ a xs) (yR C F Ω σ v u):=by
 refine cw (h.ex) fun t j g d r=>?_;clear h;subst g
 refine(Dr G f r).mono fun b q n=>?_;have e:=(List.any_toArray ..).trans q.2
 clear r G f;rcases n with⟨⟩
 .exact in_tupleAt (fun y=>ix y v) d (fun y c=>q.1 _ _ y (mem_toArray.mp c)) (e▸.fF H .bool)
 .exact notIn_tupleAt (fun y=>ix y v) d (fun y c=>q.1 _ _ y (mem_toArray.mp c)) (e▸.fF H .bool)
theorem TO(G:Good C)(H:Hr C F Ω σ)(f:VR C Ω a v)(h:yC C Ω xs u):OP (Wf C.Φ a xs) (yR C F Ω σ v u):=by
 refine cw (h.ex) fun t j g d r=>?_;clear h;subst g
 refine(Dr G f r).mono fun b q n=>?_;have e:=(List.any_toArray ..).trans q.2
 clear r G f;rcases n with⟨⟩
 .exact in_listAt (fun y=>ix y v) d (fun y c=>q.1 _ _ y (mem_toArray.mp c)) (e▸.fF H .bool)
 .exact notIn_listAt (fun y=>ix y v) d (fun y c=>q.1 _ _ y (mem_toArray.mp c)) (e▸.fF H .bool)
end
end
section
open PySem.SeqAt
abbrev rG:=AV->List AV->List (Str×AV)->I AV
abbrev wc(f:Value)(h:Heap):Prop:=∀M,∃k,(k=Keeper.frame\/k=Keeper.machine\/k=Keeper.boundFrame)/\Looks M h (keeperOf f) k
def ue(C:Ctx)(cl:rG):Prop:=∀F Ω σ f args (ns:List Str) ks vf vs xf,Hr C F Ω σ->VR C Ω f vf->de C Ω args vs->de C Ω ks xf->
 OP (cl f args (ns.zip ks) σ) fun p=>wpAny C.M F.A (call vf vs (ns.zip xf)) (cW C F Ω p.2 (QV C) p.1) no Ω.s/\wc vf Ω.h
def Ov(K:Frag)(σ:St)(b:AV):Option Addr:=(vR K σ "__contains__" b).bind fun p=>(findIn K (.ref p.1) "__contains__").bind fun f=>f.bind fun a=>(refOf a).bind fun f=>bif isFn K (.ref f) then some f else none
def ZK(K:Frag)(Φ:List Fact)(cl:rG)(a b:AV):I Bool:=fun σ=>
 dg (iB b) (fun y=>(iB a).bind fun x=>(ff (kH Φ .Na [x,y])).map (·,σ))
 (dg (xr K b) (fun xs=>(Wf Φ a xs).map (·,σ)) (dg (oB K σ b) (fun xs=>(Wf Φ a xs).map (·,σ))
 (dg ((fQ b).bind (dictAt σ)) (fun es=>(BU a).map fun k=>((es.lookup k).isSome,σ))
 (dg ((BE b).bind fun t=>Ex (cM K t)) (fun es=>(BU a).map fun k=>((es.lookup k).isSome,σ))
 (dg ((BE b).bind fun t=>yn (cM K t)) (fun es=>(ye a).map fun k=>((es.lookup k).isSome,σ))
 ((Ov K σ b).bind fun f=>(cl (.top (.ref f)) [b,a] [] σ).bind fun r=>(iO Φ r.2 r.1).map (·,r.2)))))))
section
variable{C:Ctx}{F:Fm}{Ω cj:Om}{σ τ:St}{v u z:Value}{a b o i:AV}{x y:bQ}
theorem iP(hT:s.TypeIs (.ref d) "dict")(hd:(d==sysModules)=false)(hg:∀A,wpAny C.M A (dictGet d key) (fun o s'=>P o.isSome s') no s):wpAny C.M A (contains (.ref d) key) P no s:=by
 unfold contains
 try with_reducible refine bK ?_
 refine ai (wpAny_specialOf hT slot_dict_contains.lookup ?_);refine wpAny_ite_false (by refine eL (beq_builtin_none ..) ?_;rfl) (ai (wpAny_callSpecialUnlessNone?_slot hT slot_dict_contains
  (wpAny_call_entry slot_dict_contains hT entry_dict_contains ?_ (args_dict_contains _ _))))
 show wpAny _ _ (dictGet d key>>=_) _ _ s;refine ai (wp_mono (hg _) fun o s' h=>?_);rcases o with _|v
 .exact (ai (wpAny_pendingKey_other hd (aL ⟨_,rfl,wpAny_truthy_bool h⟩)))
 .exact (aL ⟨_,rfl,wpAny_truthy_bool h⟩)
theorem yR.now(h:∀P:Bool->Shared->Prop,(∀t,Ω.s.toks<=t->P c (gy Ω.s Ω.h t))->wpAny C.M F.A (contains u v) P no Ω.s)(H:Hr C F Ω σ):yR C F Ω σ v u c:=
 yR.of (h (fun d s'=>d=c/\∃t,Ω.s.toks<=t/\s'=gy Ω.s Ω.h t) fun t e=>⟨rfl,t,e,rfl⟩) (fun _ _ z=>z) H
theorem yR.nu(h:wpAny C.M F.A (contains u v) (cW C F Ω σ QB c) no Ω.s):yR C F Ω σ v u c:=fun n=>by
 rcases n with⟨⟩
 .exact ai (wp_mono h fun d s' r=>aL (by(refine dW r ?_;clear r;intro cb w H' f e;subst f);exact⟨cb,w,H',.bool,e⟩))
 .exact ai (wp_mono h fun d s' r=>aL (by(refine dW r ?_;clear r;intro cb w H' f e;subst f);exact⟨cb,w,H',.bool,e⟩))
theorem ED(G:Good C)(H:Hr C F Ω σ)(hb:VR C Ω b u):OP (Ov C.K σ b) fun f=>isFn C.K (.ref f)=true/\∃x c d od,u=.ref x/\InstAt Ω.h x d c (some od)/\findIn C.K (.ref c) "__contains__"=some (some (.ref f)):=
 .bind ((mx G H hb).mono fun p hp=>.bind (.intro fun f e1=>.bind (.intro fun a e2=>.bind (.intro fun j g=>.bif fun q=>by
  refine Ju hp.2 fun x d od _ e I _ _=>?_;exact⟨q,x,_,d,od,e,I,e1.trans (e2▸qQ g▸rfl)⟩))))
theorem Uv(G:Good C){cl:rG}(s:ue C cl)(H:Hr C F Ω σ)(l:VR C Ω a v)(hb:VR C Ω b u):OP (ZK C.K C.Φ cl a b σ) fun p=>yR C F Ω p.2 v u p.1:=by
 refine .oe ((cI hb).mono fun y S=>.bind ((cI l).mono fun x N=>.map (.intro fun c e n=>?_))) (.oe ((kO G H hb).mono fun xs h=>.map (Wu G H l h)) (.oe ((gW G H hb).mono fun xs h=>.map (TO G H l h)) (.oe (.bind ((dZ hb).mono fun j E=>.intro fun es e=>.map ((mJ l).mono fun k d=>?_)))
  (.oe (.bind ((lZ hb).mono fun t w=>.intro fun es e=>.map ((mJ l).mono fun k d=>?_))) (.oe (.bind ((lZ hb).mono fun t w=>.intro fun es e=>.map ((kN l).mono fun k d=>?_))) (.bind ((ED G H hb).mono fun f D=>.bind (.intro fun r e=>.map ?_))))))))
 .exact (jq (o:=.Na) (xs:=[x,y]) G (QH N S n)).of e _ (.fF H .bool)
 .refine bW d ?_;clear d;intro t g _;clear s l hb;subst g;refine cS (H.dict e) fun M L O _=>(bY E ?_)
  clear E;intro g _;subst g;exact yR.now (fun P h=>iP L.mapOf.typeIs (H.qh G (eD e)) fun A=>wpAny_dictGet_of (isStrOf k t) L.mapOf ((fW.find O k).2▸h _ (aE _))) H
 .refine bW d ?_;clear d;intro B g _;clear s l hb;subst g;refine rm (iI G (iq e)) fun _ _ _ _ _ ns=>?_;subst w
  exact yR.now (fun P h=>iP (lK G H (iq e)) ns fun A=>wF G H (iq e) k B fun o _ q=>q▸h _ (aE _)) H
 .refine cN d ?_;clear d;intro B g;clear s l hb;subst g;refine cN (G.tab _ _ (nU e)) fun M q=>?_;clear e G;subst w
  have m:=Heap.DictOf.mapOf (rX H q.dict);exact yR.now (fun P h=>iP m.typeIs q.sys fun A=>wpAny_dictGet_of (yU k B) m (q.NX k▸h _ (aE _))) H
 .refine bY D fun d g=>(TP g ?_)
  clear g;intro x c V od T I J;clear D;subst T;have X:C.K.In Ω.h:=fun a o e=>H.keep _ _ (G.lI _ _ e)
  exact bW (aQ.mp (aC.mp d)) fun of ho _=>(.intro fun t e2=>yR.nu (bK (ai (ai (I.type.here ((looks_findIn X J).here (wpAny_ite_false (by rfl) (ai (unlessNone_K X I J d (nu (((s F Ω σ (.top (.ref f)) [b,a] [] [] (.ref f) [.ref x,v] [] H (.top _) (.cons hb (.cons l .nil)) .nil).of e).1) fun cb Z w' H' U=>(wp_mono ((vU G H' U).of e2) fun _ _ p=>p.from w')))))))))))
end
end
section
open PySem.SeqAt
noncomputable def Ha:AV->Bool
 |.top _=>false
 |_=>true
noncomputable def ui:AV->Bool
 |.lf .none=>true
 |_=>false
def B6(Φ:List Fact)(a b:AV):Option Bool:=bif ui b then dg (iB a) (fun x=>ff (kH Φ .FV [x])) (bif Ha a then some false else none) else none
noncomputable def isEq:CmpOp->Option Bool
 |.Eq=>some false
 |.NotEq=>some true
 |_=>none
noncomputable def Yn:CmpOp->Option Bool
 |.Is=>some false
 |.IsNot=>some true
 |_=>none
noncomputable def isIn:CmpOp->Option Bool
 |.In=>some false
 |.NotIn=>some true
 |_=>none
def Wx(Φ:List Fact)(op:CmpOp)(a b:AV):Option Bool:=(iB a).bind fun x=>(iB b).bind fun y=>match op with
 |.Lt=>ff (kH Φ .lt [x,y])
 |.LtE=>ff (kH Φ .le [x,y])
 |.Gt=>ff (kH Φ .lt [y,x])
 |.GtE=>ff (kH Φ .ge [x,y])
 |_=>none
abbrev iM:=List Fact->St->Bool->AV->AV->Option Bool
def DL(K:Frag)(Φ:List Fact)(deep:iM)(cl:rG)(op:CmpOp)(a b:AV):I Bool:=fun σ=>
 dg (isIn op) (fun n=>(ZK K Φ cl a b σ).map fun r=>(cond n (!r.1) r.1,r.2))
 (dg (isEq op) (fun n=>(dg (iB a) (fun _=>CW Φ a b) (deep Φ σ n a b)).map fun r=>(cond n (!r) r,σ))
 (dg (Yn op) (fun n=>(B6 Φ a b).map fun r=>(cond n (!r) r,σ)) ((Wx Φ op a b).map (·,σ))))
section
variable{C:Ctx}{F:Fm}{Ω cj:Om}{σ τ:St}{v u z:Value}{a b o i:AV}{x y:bQ}
def gn(C:Ctx)(deep:iM):Prop:=∀F Ω σ a b v u n,Good C->Hr C F Ω σ->VR C Ω a v->VR C Ω b u->OP (deep C.Φ σ n a b) fun c=>wpAny C.M F.A (compareOp (bif n then .NotEq else .Eq) v u) (cW C F Ω σ (QV C) (.lf (.bool (cond n (!c) c)))) no Ω.s
theorem Nu(H:Hr C F Ω σ)(h:isSame v u=pure c):wpAny C.M F.A (compareOp (bif n then .IsNot else .Is) v u) (cW C F Ω σ (QV C) (.lf (.bool (cond n (!c) c)))) no Ω.s:=by
 rcases n with⟨⟩
 .show wpAny _ _ (do return Value.bool (<-isSame v u):Sem Value) _ _ _;exact eL h (ai (aL (aL (.fF H .bool))))
 .show wpAny _ _ (do return Value.bool (!(<-isSame v u)):Sem Value) _ _ _;exact eL h (ai (aL (aL (.fF H .bool))))
theorem same_none(h:v≠.none):isSame v .none=pure false:=by
 rcases v with⟨⟩<;>first|rfl|exact absurd rfl h
theorem Fg(d:LR x v):OP (ff (zR .FV x)) fun c=>isSame v .none=pure c:=by
 induction d<;>exact rfl
theorem VR.LP(e:VR C Ω a v)(d:iB a=none)(c:Ha a=true):v≠.none:=by
 induction e with
 |lf=>exact cX (Eq.symm d)
 |top=>exact(aA c).elim
 |_=>exact fun q=>Value.noConfusion q
theorem LR.HB(h:LR .none v):v=.none:=h.inv
theorem qB(c:VR C Ω a v)(h:ui a=true):v=.none:=by
 cases a with
 |lf x=>rcases x with⟨⟩<;>first|exact LR.HB c.leaf|exact(aA h).elim
 |_=>exact(aA h).elim
theorem Qs(G:Good C)(H:Hr C F Ω σ)(op)(j:VR C Ω a v)(hb:VR C Ω b u):OP (Wx C.Φ op a b) fun c=>wpAny C.M F.A (compareOp op v u) (cW C F Ω σ (QV C) (.lf (.bool c))) no Ω.s:=by
 have key:∀ {o} {x y} {m},OP (rC o (C.cn x) (C.cn y)) (Lw C.M F.A Ω.s m)->ew o [C.cn x,C.cn y]=rC o (C.cn x) (C.cn y)->OP (ff (kH C.Φ o [x,y])) fun c=>wpAny C.M F.A m (cW C F Ω σ (QV C) (.lf (.bool c))) no Ω.s:=
  fun h e=>jq G (.intro fun c e2=>(h.of (e▸lG e2)) _ fun v _ g q=>.now H g (.lf _ _ q))
 refine .bind ((cI j).mono fun x d=>.bind ((cI hb).mono fun y f=>?_));induction op with
 |Lt=>exact key (WG d f) rfl
 |LtE=>exact key (Vj d f) rfl
 |Gt=>exact key (Uz d f) rfl
 |GtE=>exact key (Vg d f) rfl
 |_=>trivial
theorem Qg(G:Good C)(H:Hr C F Ω σ)(d:VR C Ω a v)(hb:VR C Ω b u)(n):OP (CW C.Φ a b) fun c=>wpAny C.M F.A (compareOp (bif n then .NotEq else .Eq) v u) (cW C F Ω σ (QV C) (.lf (.bool (cond n (!c) c)))) no Ω.s:=
 (uj G d hb).mono fun c e=>by
  rcases n with⟨⟩
  .exact e.rc _ _ C.prog C.w _ _ (.fF H .bool)
  .exact e.ne _ _ C.prog C.w _ _ (.fF H .bool)
theorem RV(G:Good C){deep:iM}(D:gn C deep){cl:rG}(l:ue C cl)(H:Hr C F Ω σ)(op)(d:VR C Ω a v)(hb:VR C Ω b u):
  OP (DL C.K C.Φ deep cl op a b σ) fun p=>wpAny C.M F.A (compareOp op v u) (cW C F Ω p.2 (QV C) (.lf (.bool p.1))) no Ω.s:=by
 refine .oe (.intro fun n e=>.map ((Uv G l H d hb).mono fun r h=>?_)) (.oe (.intro fun n e=>?_) (.oe (.intro fun n e=>.map (.bif fun k=>?_)) (.map (Qs G H op d hb))))
 .rcases op with⟨⟩<;>first|exact cX e|((injection e with f;subst f);first|exact h false|exact h true)
 .have g:op=bif n then .NotEq else .Eq:=by rcases op with⟨⟩<;>first|exact cX e|((injection e with f;subst f);rfl)
  exact eL g (.map (.oe (.intro fun _ _=>Qg G H d hb n) (D F Ω σ a b v u n G H d hb)))
 .have g:op=bif n then .IsNot else .Is:=by rcases op with⟨⟩<;>first|exact cX e|((injection e with f;subst f);rfl)
  refine eL g ?_;obtain rfl:=qB hb k;rcases j:iB a with _|x
  .exact .bif fun q=>Nu H (same_none (d.LP j q))
  .exact ((jq (o:=.FV) (xs:=[x]) G (Fg ((cI d).of j))).mono fun c h=>Nu H h)
end
end
section
open PySem.SeqAt
noncomputable def DJ:List (Str×String):=[("join","str.join"),("startswith","str.startswith"),("count","str.count"),("rfind","str.rfind"),("lower","str.lower")]
noncomputable def HA:List (Str×String):=[("append","list.append"),("pop","list.pop")]
def Uj(K:Frag)(o:AV)(a:Value):Option (AV×List AV):=(refOf a).bind fun f=>bif isFn K (.ref f) then some (.top (.ref f),[o]) else none
def NT(σ:St)(j:Nat):Option Unit:=dg (listAt σ j) (fun _=>some ()) ((lF σ j).map fun _=>())
def DA(K:Frag)(Φ:List Fact)(o:AV)(name:Str)(σ:St):Option (AV×List AV):=
 dg (iB o) (fun x=>(kH Φ .len [x]).bind fun _=>(DJ.lookup name).map fun id=>(.top (.builtin id),[o]))
 (dg ((fQ o).bind (NT σ)) (fun _=>(HA.lookup name).map fun id=>(.top (.builtin id),[o]))
 ((vR K σ name o).bind fun p=>(findIn K (.ref p.1) name).bind fun f=>dg f (fun a=>dg p.2 (fun _=>none) (Uj K o a)) (p.2.map fun v=>(v,[]))))
section
variable{C:Ctx}{F:Fm}{Ω cj:Om}{σ τ:St}{v u z:Value}{a b o i:AV}{x y:bQ}{name:Str}{id:String}{pl:Sem Bool}
noncomputable abbrev QM(C:Ctx):Rl (AV×List AV) (Value×List Value):=fun Ω p q=>VR C Ω p.1 q.1/\de C Ω p.2 q.2
theorem len_str(c:LR x v):OP (zR .len x) fun _=>∃s t,v=.str s t:=by
 induction c with
 |str s t=>exact(dJ s t rfl)
 |_=>trivial
theorem dw{α β:Type}[BEq α][LawfulBEq α]{k x:α}{w r:β}{l:List (α×β)}(e:((x,w)::l).lookup k=some r):(k=x/\w=r)\/l.lookup k=some r:=by
 rw [aY] at e;rcases h:k==x with _|_
 .rw [h] at e;exact .inr e
 .rw [h] at e;exact .inl ⟨aC.mp h,bB e⟩
theorem Gv{s:Shared}{x:Str}{t:Tok}{A:Around}{Q:Value×List Value->Shared->Prop}(e:DJ.lookup name=some id)(h:Q (.builtin id,[.str x t]) s):wpAny C.M A (getMethod (.str x t) name pl) Q no s:=by
 rcases dw e with⟨rfl,rfl⟩|e
 .with_reducible exact GM.join h
 rcases dw e with⟨rfl,rfl⟩|e
 .with_reducible exact GM.startswith h
 rcases dw e with⟨rfl,rfl⟩|e
 .with_reducible exact GM.count h
 rcases dw e with⟨rfl,rfl⟩|e
 .with_reducible exact GM.rfind h
 rcases dw e with⟨rfl,rfl⟩|e
 .with_reducible exact GM.lower h
 .exact (nomatch (show(none:Option String)=some id from e))
theorem Ft{s:Shared}{l:Addr}{ob:Obj}{A:Around}{Q:Value×List Value->Shared->Prop}(c:s.heap.get? l=some ob)(f:ob.cls=.type "list")(hd:ob.dict=none)(e:HA.lookup name=some id)(h:Q (.builtin id,[.ref l]) s):wpAny C.M A (getMethod (.ref l) name pl) Q no s:=by
 rcases dw e with⟨rfl,rfl⟩|e
 .exact getMethod_builtin ⟨_,c,f⟩ F.plainAttrs_list F.slot_list_append F.type_list_append (fun a q=>by(injection q with d;subst d);exact⟨_,c,hd⟩) h
 rcases dw e with⟨rfl,rfl⟩|e
 .exact getMethod_builtin ⟨_,c,f⟩ F.plainAttrs_list F.slot_list_pop F.type_list_pop (fun a q=>by(injection q with d;subst d);exact⟨_,c,hd⟩) h
 .exact (nomatch (show(none:Option String)=some id from e))
theorem VR.blt{n:String}:VR C Ω (.top (.builtin n)) (.builtin n):=.top _
theorem de.one(h:VR C Ω a v):de C Ω [a] [v]:=.cons h .nil
theorem EH(H:Hr C F Ω σ){j:Nat}:OP (NT σ j) fun _=>∃c k,Ω.h.get? (Ω.ρ j).1=some (listOf (toArray c) k):=
 .oe (.intro fun xs e=>by refine eF (H.list e) fun c k q _=>?_;exact⟨c,k,q⟩) (.map (.intro fun p e=>by obtain⟨xs,i,zs⟩:=p;refine eF (H.fK e) fun c k q _=>?_;exact⟨c,k,q⟩))
theorem HC(G:Good C)(H:Hr C F Ω σ)(ho:VR C Ω o v):OP (DA C.K C.Φ o name σ) fun p=>wpAny C.M F.A (getMethod v name pl) (cW C F Ω σ (QM C) p) no Ω.s:=by
 refine .oe ((cI ho).mono fun x l=>.bind (.intro fun r e=>.map (.intro fun id e2=>?_))) (.oe (.bind ((dZ ho).mono fun j m=>(EH H).mono fun _ e=>.map (.intro fun id e2=>?_))) (.bind ((mx G H ho).mono fun p hp=>.bind (.intro fun f g=>?_))))
 .refine bW (ju G e) fun N e1 _=>(uc ((len_str l).of e1) fun s t d=>?_)
  clear e1 l e G;subst d
  with_reducible refine Gv e2 ?_
  exact .fF H ⟨.blt,.one ho⟩
 .refine uc e fun O k E=>(bY m ?_)
  clear m;intro d _;clear e G;subst d;exact Ft E rfl rfl e2 (.fF H ⟨.blt,.one ho⟩)
 .obtain ⟨c,r⟩:=p;have L:=hp.1;refine Ju hp.2 fun x J od w D I n hw=>?_
  clear hp;subst D;have X:C.K.In Ω.h:=fun a o e=>H.keep _ _ (G.lI _ _ e)
  clear G;rcases f with _|a
  .clear ho;cases hw with
   |none=>trivial
   |some hr B=>exact method_usual X I L.ga L.gt g rfl (get_value X I L.ga (findObj_own L.hd g rfl n) B (cW.grown H (aE _) (fun _ _ e=>e) fun w=>⟨hr.mono w,.nil⟩))
  .cases hw with
   |some=>trivial
   |none=>
    induction a with
    |ref f=>exact .bif fun q=>method_fn X I L.ga L.gt g (aC.mp q) (by show(lookIn name od).map _=_;refine eL n ?_;rfl) (cW.fF H ⟨.top _,.one ho⟩)
    |_=>trivial
end
end
section
open PySem.SeqAt
noncomputable def plainArg:Expr->Bool
 |.Starred ..=>false
 |_=>true
structure Rc where
 ev:Expr->I AV
 gO:Expr->I Bool
 ex:Stmt->I Fl
 fL:List Stmt->I Fl
 call:rG
 uF:List Expr->I (List AV)
 asg:Expr->AV->I Unit
structure cD(C:Ctx)(R:Rc):Prop where
 ev:∀F Ω e,Sm C F Ω (eval e F.env) (R.ev e) (QV C)
 gO:∀F Ω e,Sm C F Ω (isTrue e F.env (eval e F.env)) (R.gO e) QB
 ex:∀F Ω s,Sm C F Ω (exec s F.env) (R.ex s) (QF C)
 fL:BodyOk C R.fL
 call:ue C R.call
 uF:∀F Ω l,l.all plainArg=true->Sm C F Ω (spliced (starEach l F.env)) (R.uF l) (Kn C)
 NJ:∀F Ω l pos,Sm C F Ω (evalAll ((backToKw pos (keywordEach l F.env)).map (·.2))) (R.uF (l.map fun k=>k.value)) (Kn C)
 asg:∀F Ω t a v,VR C Ω a v->Sm C F Ω (assign t F.env v) (R.asg t a) QU
noncomputable def iJ:List Keyword->Option (List Str)
 |[]=>some []
 |k::r=>k.arg.bind fun n=>(iJ r).map (n::·)
section
variable{R:Rc}
theorem dR(h:plainArg e=true):starEach (e::r) env=(false,eval e env)::starEach r env:=by
 rcases e with⟨⟩<;>first|rfl|exact(aA h).elim
theorem ib:∀ {l:List Expr},l.all plainArg=true->(starEach l env).any (·.1)=false/\(starEach l env).all (fun x=>!x.1)=true/\backTo pos (starEach l env)=starEach l env:=by
 intro l;induction l with
 |nil=>
  intro _;exact⟨rfl,rfl,rfl⟩
 |cons e r d=>
  intro h;rw [all_cons,aW] at h;exact fq (d h.2) fun a b c=>(eL (dR h.1) (eL any_cons (eL all_cons (eL a (eL b (⟨rfl,rfl,az ((false,eval e env)::·) c⟩))))))
theorem iy:∀ {l} {ns},iJ l=some ns->(backToKw pos (keywordEach l env)).filterMap (·.1)=ns/\(backToKw pos (keywordEach l env)).all (·.1.isSome)=true/\(backToKw pos (keywordEach l env)).any (·.1.isNone)=false:=by
 intro l;induction l with
 |nil=>
  intro ns e;cases e;exact⟨rfl,rfl,rfl⟩
 |cons g r f=>
  obtain⟨name,value,p⟩:=g;intro ns e;refine bW (aM.mp e) fun n d e=>?_
  subst d;refine bW (aQ.mp e) fun h e1 d=>?_
  clear e;subst d;exact fq (f e1) fun a b c=>⟨az (List.cons n) a,b,c⟩
def OE(R:Rc)(e:Expr)(r:List Expr):I (List AV):=cv (R.ev e) fun v=>cv (R.uF r) fun a=>ret (v::a)
theorem GO(c:cD C R)(h:(e::r).all plainArg=true):Sm C F Ω (spliced (starEach (e::r) F.env)) (OE R e r) (Kn C):=by
 rw [all_cons,aW] at h;refine eL (dR h.1) ?_;exact Sm.bind (c.ev F Ω e) fun i m a v g=>(show Sm _ _ _ (holding [v] (spliced (starEach r F.env))>>=fun x=>pure ([v]++x)) _ _ from
  Sm.bind (.holding (c.uF F i r h.2)) fun j d as l f=>.pure fun k b=>.cons ((g.mono d).mono b) (f.mono b))
theorem kws_cons(c:cD C R):Sm C F Ω (evalAll ((backToKw pos (keywordEach (k::r) F.env)).map (·.2))) (OE R k.value (r.map fun k=>k.value)) (Kn C):=by
 obtain⟨n,e,p⟩:=k;refine Sm.bind ((c.ev F Ω e).HW fun _ _ _ _ _ _ h=>ai (wp_mono h fun _ _ p=>ai (wpAny_standAt (aL p)))) fun i o a v g=>Sm.bind (.holding (c.NJ F i r pos)) fun j d as m f=>.pure fun l b=>.cons ((g.mono d).mono b) (f.mono b)
end
end
section
open PySem.SeqAt
noncomputable def baseOk:Expr->Bool
 |.Call (.Name ..) [] [] _=>false
 |_=>true
noncomputable def fE:Expr->Bool
 |.Set ..=>false
 |_=>true
def TJ(R:Rc):List Expr->I (List AV)
 |[]=>ret []
 |e::r=>R.uF (e::r)
def uR(R:Rc)(b:AV)(first:List AV)(args:List Expr)(a:List Keyword):I AV:=gd (args.all plainArg) (cv (TJ R args) fun as=>cv (R.uF (a.map fun k=>k.value)) fun ks=>opt (iJ a) fun ns=>R.call b (first++as) (ns.zip ks))
section
variable{C:Ctx}{F:Fm}{Ω cj:Om}{σ τ:St}{v u z:Value}{a b o i:AV}{R:Rc}{pos:Pos}{α β:Type}
theorem Sm.operate{i:I β}(h:Sm C F Ω m i Q):Sm C F Ω (operate c m) i Q:=h.HW fun _ _ _ _ _ _=>wpAny_operate'
theorem AP(t:cD C R)(B:VR C Ω j d)(N:de C Ω first vfirst):
  Sm C F Ω (callWith pos d vfirst (backTo pos (starEach args F.env)) (backToKw pos (keywordEach kw F.env))) (uR R j first args kw) (QV C):=fun cj w σ H=>by
 refine .gd fun hp=>(fq (ib (env:=F.env) (pos:=pos) hp) fun x y s=>?_)
 have go:∀ {as} {g} {q ns r},R.uF (kw.map fun k=>k.value) g=some q->iJ kw=some ns->R.call j (first++as) (ns.zip q.1) q.2=some r->∀ {m s'},cW C F cj g (Kn C) as m s'->
   wpAny C.M F.A (evalAll ((backToKw pos (keywordEach kw F.env)).map (·.2))) (fun ks L=>wc d L.heap/\wpAny C.M F.A (call d (vfirst++m) (((backToKw pos (keywordEach kw F.env)).filterMap (·.1)).zip ks)) (cW C F cj r.2 (QV C) r.1) no L) no s':=by
  intro as g q ns r e2 c f m s' h;refine dW h ?_;clear h;intro G J S V U;clear x y s hp;subst U;refine nu (((t.NJ F G kw pos) G .refl g S).of e2) fun X ks n O T=>?_
  have E:=(w.trans J).trans n;refine bY ((t.call F X q.2 j (first++as) ns q.1 d (vfirst++m) ks O (B.mono E) ((N.mono E).append (V.mono n)) T).of f) fun c1 c2=>?_
  exact⟨c2,(iy c).1▸wp_mono c1 fun _ _ z=>z.from (J.trans n)⟩
 refine eL s ?_;clear y s B N;rcases args with _|⟨e,l⟩
 .exact (show OP (cv (R.uF (kw.map fun k=>k.value)) (fun ks=>opt (iJ kw) fun ns=>R.call j (first++[]) (ns.zip ks)) σ) _ from .bind (.intro fun q e2=>.opt (.intro fun ns c=>.intro fun r f=>callWith_of (by rw [x,(iy c).2.2];rfl) (fun h q=>q _) (evalArgs_kw_nil (iy c).2.1 (go e2 c f (.fF H .nil))))))
 .refine .bind (((t.uF F cj (e::l) hp) cj .refl σ H).mono fun p D=>.bind (.intro fun q e2=>.opt (.intro fun ns c=>.intro fun r f=>callWith_of (P:=wc d) (by refine eL x (eL ((iy c).2.2) ?_);rfl) (fun h q=>q _) ?_)));rw [dR (ab.mp (all_cons▸hp)).1] at D ⊢;exact evalArgs_kw (iy c).2.1 (wp_mono D fun _ _=>go e2 c f)
theorem EJ(G:Good C)(c:cD C R):Sm C F Ω (eval (.BinOp l op r pos) F.env) (cv (R.ev l) fun a=>cv (R.ev r) fun b=>Pd C.K C.Φ op a b) (QV C):=
 .bind (c.ev F Ω l) fun cj _ a h e=>.bind (.holding (c.ev F cj r)) fun g d b f hb=>.dA (.operate (Qr G op (e.mono d) hb))
theorem Sm.YQ{i:I Bool}(h:Sm C F Ω m i QB):Sm C F Ω (m>>=fun t=>Pure.pure (Value.bool !t)) (cv i fun t=>ret (.lf (.bool !t))) (QV C):=.bind h fun _ _ _ _ q=>.pure fun _ _=>q▸.bool
def TH(Φ:List Fact)(a:AV):Option AV:=(iB a).bind fun x=>(kH Φ .neg [x]).map .lf
theorem RU(c:LR x v):OP (zR .neg x) (Lw C.M A s (unaryOp .USub v)):=by
 induction c with
 |int i t=>exact fun Z h=>PyProof.Rows.neg_int (h _ _ (aE _) (.int _ _))
 |_=>trivial
theorem Qz(G:Good C)(e:cD C R){x:Expr}:Sm C F Ω (eval (.UnaryOp .USub x pos) F.env) (cv (R.ev x) fun a=>rd fun _=>TH C.Φ a) (QV C):=
 .bind (e.ev F Ω x) fun cj _ a f d=>.dA (.holding (.rd fun _ w _ H=>.bind ((cI (d.mono w)).mono fun x c=>.map (fC G H (RU c)))))
theorem PL(G:Good C)(d:cD C R){x:Expr}:Sm C F Ω (eval (.UnaryOp .Not x pos) F.env) (cv (R.ev x) fun a=>cv (rd fun σ=>iO C.Φ σ a) fun t=>ret (.lf (.bool !t))) (QV C):=
 .bind (d.ev F Ω x) fun cj _ a e c=>.dA (.holding (.holding (.YQ (qG G c))))
def Tq(R:Rc)(t:Expr)(a b:I β):I β:=cv (R.gO t) fun c=>cond c a b
theorem Di(c:cD C R){t a b:Expr}:Sm C F Ω (eval (.IfExp t a b pos) F.env) (Tq R t (R.ev a) (R.ev b)) (QV C):=
 .bind (c.gO F Ω t) fun cj _ _ _ q=>.ite q (c.ev F cj a) (c.ev F cj b)
theorem CJ(c:cD C R){t a b:Expr}:Sm C F Ω (isTrue (.IfExp t a b pos) F.env (eval (.IfExp t a b pos) F.env)) (Tq R t (R.gO a) (R.gO b)) QB:=
 .bind (c.gO F Ω t) fun cj _ _ _ q=>.ite q (c.gO F cj a) (c.gO F cj b)
theorem Mb(c:cD C R):Sm C F Ω (isTrue (.UnaryOp .Not x pos) F.env (eval e F.env)) (cv (R.gO x) fun t=>ret !t) QB:=
 .bind (c.gO F Ω x) fun _ _ _ _ q=>.pure fun _ _=>q▸rfl
theorem KJ(h:de C Ω xs c):Sm C F Ω (newList c) (gN xs.length (new (.list xs))) (QV C):=fun cj w σ H=>.gd fun q=>wpAny_newList (cW.list H (h.mono w) (ag (ax q) (by decide))) (h.len▸cA (ax q))
theorem RD(h:de C Ω xs c):Sm C F Ω (newTuple c) (gN xs.length (ret (.tup xs))) (QV C):=fun cj w σ H=>.gd fun q=>wpAny_newTuple (cW.tup H (h.mono w) (cA (ax q))) (h.len▸cA (ax q))
theorem AZ(c:cD C R)(h:es.all plainArg=true):Sm C F Ω (spliced (backTo pos (starEach es F.env))) (R.uF es) (Kn C):=by
 exact eL ((ib h).2.2) (c.uF F Ω es h)
theorem KR(c:cD C R){es:List Expr}:Sm C F Ω (eval (.List es pos) F.env) (gd (es.all plainArg) (cv (R.uF es) fun xs=>gN xs.length (new (.list xs)))) (QV C):=
 .gd fun h=>.dA (.bind (AZ c h) fun _ _ _ _ q=>KJ q)
theorem Fd(c:cD C R){es:List Expr}{k}:Sm C F Ω (eval (.Tuple es k pos) F.env) (gd (es.all plainArg) (cv (R.uF es) fun xs=>gN xs.length (ret (.tup xs)))) (QV C):=
 .gd fun h=>.dA (.bind (AZ c h) fun _ _ _ _ q=>RD q)
end
end
section
open PySem.SeqAt
noncomputable def short:BoolOp->Bool->Bool
 |.And,t=>!t
 |.Or,t=>t
noncomputable def FK(R:Rc)(Φ:List Fact)(op:BoolOp):List Expr->I AV
 |[]=>eB
 |[x]=>R.ev x
 |x::y::r=>cv (R.ev x) fun v=>cv (rd fun σ=>iO Φ σ v) fun t=>cond (short op t) (ret v) (FK R Φ op (y::r))
noncomputable def GC(R:Rc)(op:BoolOp):List Expr->I Bool
 |[]=>ret (op==.And)
 |x::r=>cv (R.gO x) fun t=>cond (short op t) (ret t) (GC R op r)
def toV(i:I Bool):I AV:=cv i fun t=>ret (.lf (.bool t))
def Xk(i:I Bool):I Bool:=cv i ret
def HI(K:Frag)(Φ:List Fact)(D:iM)(R:Rc)(fin:I Bool->I β)(l:Expr)(op:CmpOp)(r:Expr):I β:=gd (!behindInMarks op r) (cv (R.ev l) fun a=>cv (R.ev r) fun b=>fin (DL K Φ D R.call op a b))
def EL(K:Frag)(Φ:List Fact)(D:iM)(R:Rc)(fin:I Bool->I β)(f:β)(l:Expr)(op e:CmpOp)(r d:Expr):I β:=gd (!behindInMarks e d) (cv (R.ev l) fun a=>cv (R.ev r) fun b=>cv (DL K Φ D R.call op a b) fun t=>
 cond t (cv (R.ev d) fun c=>fin (DL K Φ D R.call e b c)) (ret f))
section
variable{C:Ctx}{F:Fm}{Ω cj:Om}{σ τ:St}{v u z:Value}{a b o i:AV}{R:Rc}{pos:Pos}{α β:Type}
noncomputable abbrev i3(C:Ctx):Rl Bool Value:=fun _ b v=>v=.bool b
theorem Sm.cond{i j:I β}(x:c=true->Sm C F Ω m i Q)(y:c=false->Sm C F Ω m j Q):Sm C F Ω m (cond c i j) Q:=by
 rcases c with⟨⟩
 .exact y rfl
 .exact x rfl
theorem MN(G:Good C)(d:cD C R)(op):∀es {Ω},Sm C F Ω (eval (.BoolOp op es pos) F.env) (FK R C.Φ op es) (QV C):=by
 intro es;induction es with
 |nil=>exact fun {_}=>.none
 |cons x r h=>
 intro Ω;rcases r with _|⟨y,r⟩
 .exact d.ev F Ω x
 exact .bind (d.ev F Ω x) fun cj _ a j c=>.dA (.bind (.holding (qG G c)) fun e f t k q=>by
  clear x G d;subst q;have s:Sm C F e (Pure.pure j) (ret a) (QV C):=.pure fun _ w=>(c.mono f).mono w
  have g:=h (Ω:=e);clear c f h;rcases op with⟨⟩<;>rcases t with⟨⟩
  .exact s
  .exact g
  .exact g
  .exact s)
theorem GS(c:cD C R)(op):∀es {Ω} {e},Sm C F Ω (isTrue (.BoolOp op es pos) F.env (eval e F.env)) (GC R op es) QB:=by
 intro es;induction es with
 |nil=>exact fun {_ _}=>.pure fun _ _=>rfl
 |cons x r d=>
 intro Ω e;exact .bind (c.gO F Ω x) fun cj _ t f q=>by
  clear x c;subst q;have g:=d (Ω:=cj) (e:=e);clear d;rcases op with⟨⟩<;>rcases t with⟨⟩
  .exact .pure fun _ _=>rfl
  .exact g
  .exact g
  .exact .pure fun _ _=>rfl
theorem nS(G:Good C)(hD:gn C D)(g:cD C R)(op)(j:VR C Ω a v)(hb:VR C Ω b u):Sm C F Ω (compareOp op v u) (DL C.K C.Φ D R.call op a b) (i3 C):=fun cj w σ H=>
 (RV G hD g.call H op (j.mono w) (hb.mono w)).mono fun p h=>wp_mono h fun x s' q=>by
  refine dW q fun c d f q e=>?_;have q:=q.leaf
  exact⟨c,d,f,by cases q;rfl,e⟩
theorem marks(h:(!behindInMarks op r)=true):markedBehindIn op r m=m:=by
 unfold markedBehindIn;exact eL ((bM _).mp h) rfl
theorem Sm.toV{i:I Bool}(h:Sm C F Ω m i (i3 C)):Sm C F Ω m (toV i) (QV C):=fun cj w σ H=>.bind ((h cj w σ H).mono fun p h=>wp_mono h fun x s' q=>by
 refine dW q ?_;clear q;intro d f g c e;subst c;exact⟨d,f,g,.bool,e⟩)
theorem Sm.known{i:I β}{Q:Rl β α}(h:Sm C F Ω (k t) i Q):Sm C F Ω (PySem.holding c (truthy (.bool t))>>=k) i Q:=h.HW fun _ _ _ _ _ _ h=>ai (bK (wpAny_truthy_bool h))
theorem Sm.Hm:Sm C F Ω (PySem.holding c (truthy (.bool t))) (ret t) QB:=fun _ _ _ H=>bK (wpAny_truthy_bool (cW.fF H rfl))
theorem Sm.release{i:I β}{Q:Rl β α}(h:Sm C F Ω (k ()) i Q):Sm C F Ω (PySem.release c ks>>=k) i Q:=h.HW fun _ _ _ _ _ _ h=>ai (wpAny_release' h)
variable{D:iM}{l r r':Expr}{op CI:CmpOp}
theorem AG(c:cD C R)(h:(!behindInMarks op r)=true):Sm C F Ω (markedBehindIn op r (eval r F.env)) (R.ev r) (QV C):=by exact eL (marks h) (c.ev F Ω r)
theorem JH(G:Good C)(hD:gn C D)(c:cD C R):Sm C F Ω (eval (.Compare l [op] [r] pos) F.env) (HI C.K C.Φ D R toV l op r) (QV C):=
 .gd fun h=>.bind (c.ev F Ω l) fun cj _ a j e=>.bind (.holding (AG c h)) fun g d b f hb=>.dA (.operate (.toV (nS G hD c op (e.mono d) hb)))
theorem EX(G:Good C)(hD:gn C D)(c:cD C R){e:Expr}:Sm C F Ω (isTrue (.Compare l [op] [r] pos) F.env (eval e F.env)) (HI C.K C.Φ D R Xk l op r) QB:=
 .gd fun h=>.bind (c.ev F Ω l) fun cj _ a k d=>.bind (.holding (AG c h)) fun g f b m hb=>.dA (.bind (.operate (nS G hD c op (d.mono f) hb)) fun j _ t v q=>q▸.Hm)
theorem Mu(G:Good C)(hD:gn C D)(d:cD C R):Sm C F Ω (eval (.Compare l [op,CI] [r,r'] pos) F.env) (EL C.K C.Φ D R toV (.lf (.bool false)) l op CI r r') (QV C):=
 .gd fun h=>.bind (d.ev F Ω l) fun cj _ a w e=>.bind (.holding (d.ev F cj r)) fun p k b x hb=>.dA (.bind (.holding (nS G hD d op (e.mono k) hb)) fun s f t v q=>.release (by
  subst q;exact .known (.cond (fun z=>by subst z;exact .bind (.holding (AG d h)) fun m g c n j=>.dA (.operate (.toV (nS G hD d CI ((hb.mono f).mono g) j)))) fun z=>by subst z;exact .pure fun _ _=>.bool)))
theorem DR(G:Good C)(hD:gn C D)(d:cD C R){e:Expr}:Sm C F Ω (isTrue (.Compare l [op,CI] [r,r'] pos) F.env (eval e F.env)) (EL C.K C.Φ D R Xk false l op CI r r') QB:=
 .gd fun h=>.bind (d.ev F Ω l) fun cj _ a y f=>.bind (.holding (d.ev F cj r)) fun w m b A hb=>.dA (.bind (.holding (nS G hD d op (f.mono m) hb)) fun x g t v q=>.release (by
  subst q;exact .known (.cond (fun z=>by subst z;exact .bind (.holding (AG d h)) fun n j c p k=>.dA (.bind (.operate (nS G hD d CI ((hb.mono g).mono j) k)) fun s _ t v q=>q▸.Hm)) fun z=>by subst z;exact .pure fun _ _=>rfl)))
theorem uD{o:Expr}(e:baseOk o=true):attributeBase o name env m=m:=by
 cases o with
 |Call f as c p=>
  cases f with
  |Name x q=>
   rcases as with _|⟨_,_⟩
   .induction c with
    |nil=>exact(aA e).elim
    |cons=>rfl
   .rfl
  |_=>rfl
 |_=>rfl
theorem JT(G:Good C)(d:cD C R){o:Expr}{name:Str}:Sm C F Ω (eval (.Attribute o name pos) F.env) (gd (baseOk o) (cv (R.ev o) fun a=>rd (GK C.K a name))) (QV C):=
 .gd fun h=>.seq (fun Z s k=>Attribute_any_ k (eL (arm_eval_Attribute ..) (eL (uD h) rfl))) (d.ev F Ω o) fun cj _ a e c=>.rd fun _ w _ H=>AB G H (c.mono w) true
theorem JP(slice)(o i):∃ops,subscripted slice false o i=operate ops (getItem o i):=by
 cases slice with
 |Slice a b c p=>rcases c with⟨⟩<;>exact⟨_,rfl⟩
 |_=>exact⟨_,rfl⟩
theorem mf{o i:Value}(hr:Road s o)(hg:wpAny C.M A (getItem o i) Q no s):wpAny C.M A (subscriptTail value slice o i) Q no s:=by
 exact cN (JP slice o i) fun ops e=>(eF hr fun T id hT c=>(tail_any hT c hg e))
theorem Pl(G:Good C)(c:cD C R){o i:Expr}:Sm C F Ω (eval (.Subscript o i pos) F.env) (cv (R.ev o) fun a=>cv (R.ev i) fun b=>rd (FP C.K C.Φ a b)) (QV C):=
 .bind (c.ev F Ω o) fun cj _ a e g=>.bind (.holding (c.ev F cj i)) fun j d b f hb=>.dA (show Sm _ _ _ (subscriptTail o i e f) _ _ from .rd fun _ w _ H=>(DB G H ((g.mono d).mono w) (hb.mono w)).mono fun _ h=>mf h.2 h.1)
theorem Et(c:cD C R):Sm C F Ω (eval (.Call (.Name x np) args kw pos) F.env) (cv (R.ev (.Name x np)) fun f=>uR R f [] args kw) (QV C):=
 .seq (fun Z s=>wpAny_Call_ofName) (c.ev F Ω _) fun cj _ f e d=>AP c d .nil
theorem Fp(h:args.all plainArg=true)(k:iJ kw=some ns)(c:n<20):methodCallForm n (backTo pos (starEach args env)) (backToKw pos (keywordEach kw env))=true:=by
 refine fq (ib (env:=env) (pos:=pos) h) fun _ a b=>?_;unfold methodCallForm
 exact eL b (eL a (eL ((iy k).2.1) (bo (Nat.lt_of_le_of_lt (add_le_add_left (by split;exact zero_le _;exact ah _) n) (aS (succ_lt_succ c) (by decide))))))
theorem HK(G:Good C)(c:cD C R){o:Expr}{name:Str}:Sm C F Ω (eval (.Call (.Attribute o name apos) args kw pos) F.env)
  (gd (baseOk o&&((apos.endLine==pos.line)&&(decide (args.length+kw.length<20)&&args.all plainArg))) (opt (iJ kw) fun _=>cv (R.ev o) fun a=>cv (rd (DA C.K C.Φ a name)) fun p=>uR R p.1 p.2 args kw)) (QV C):=
 .gd fun h=>.opt fun ns k=>by
  rw [aW,aW,aW] at h;refine eL (arm_eval_Call ..) (eL (uD h.1) (.bind (c.ev F Ω o) fun cj _ a j d=>.dA ?_));unfold methodCall;refine eL (Fp h.2.2.2 k (ax h.2.2.1)) (.bind (.holding (.rd fun _ w _ H=>HC G H (d.mono w))) fun g _ p q hp=>?_);obtain⟨f,vfirst⟩:=q;refine(AP (pos:=pos) c hp.1 hp.2).HW fun _ _ _ _ _ _ e=>ai ?_
  unfold methodCallPos;exact wpAny_ite_true (by refine eL h.2.1 ?_;rfl) (aL e)
end
end
section
open PySem.SeqAt
noncomputable def jl:Expr->Bool
 |.ListComp .. | .SetComp .. | .DictComp ..=>false
 |_=>true
def fM(x:Str)(a:AV):I Unit:=fun σ=>bif σ.sc.names.lookup x==some .local then some ((),⟨σ.sc,put x a σ.loc,σ.obj,σ.dep⟩) else none
section
variable{C:Ctx}{F:Fm}{Ω cj:Om}{σ τ:St}{v u z:Value}{a b o i:AV}{R:Rc}{pos:Pos}{α β γ δ:Type}
theorem Sm.fin{i:I β}{g:β->δ}{h:α->γ}(rule:∀cj σ,Hr C F cj σ->∀Z,wpAny C.M F.A m (fun a s₁=>Z (h a) s₁) no cj.s->wpAny C.M F.A f Z no cj.s)(d:Sm C F Ω m i Q)
  (t:∀cb b a,Q cb b a->j cb (g b) (h a)):Sm C F Ω f (cv i fun b=>ret (g b)) j:=fun cj l σ H=>.bind ((d cj l σ H).mono fun p k=>rule cj σ H _ (wp_mono k fun a s' z=>by
 refine dW z fun n r c q e=>?_;exact⟨n,r,c,t _ _ _ q,e⟩))
theorem Sm.Yv{i:I β}{k:α->Sem t}{f:β->I N}{g:N->δ}{h:t->γ}(rule:∀Z s,wpAny C.M F.A m (fun a s₁=>wpAny C.M F.A (k a) (fun b=>Z (h b)) no s₁) no s->wpAny C.M F.A D Z no s)
  (y:Sm C F Ω m i Q) (S:∀cb,W F.L Ω cb->∀b a,Q cb b a->Sm C F cb (k a) (f b) w) (B:∀cb b a,w cb b a->G cb (g b) (h a)):Sm C F Ω D (cv i fun b=>cv (f b) fun c=>ret (g c)) G:=fun cj l σ H=>
 .bind ((y cj l σ H).mono fun p hp=>.bind (.intro fun r e=>rule _ _ (wp_mono hp fun a s' q=>by
  obtain⟨d,j,x,q,rfl⟩:=q;refine wp_mono ((S d (l.trans j) p.1 a q d .refl p.2 x).of e) fun b s' z=>(dW z fun O J n E P=>?_)
  exact⟨O,j.trans J,n,B _ _ _ E,P⟩)))
theorem qo{n:Nat}(h:jl e=true):swapsWith e t n env=pure false:=by
 rcases e with⟨⟩<;>first|rfl|exact(aA h).elim
theorem Hr.kind(H:Hr C F Ω σ):F.env.scope.kind=.function:=H.env.scope▸H.env.kind
theorem sr(H:Hr C F Ω σ):interactive F.env=false:=by
 unfold interactive;refine eL H.kind ?_;rfl
theorem Ly(c:cD C R){x:Expr}:Sm C F Ω (exec (.Expr x pos) F.env) (gd (jl x) (cv (R.ev x) fun _=>ret Fl.next)) (QF C):=
 .gd fun h=>.fin (fun _ _ H Z k=>wpAny_Expr_any k (sr H) (qo h)) (c.ev F Ω x) fun _ _ _ _=>.next
theorem Ct(c:cD C R):Sm C F Ω (exec (.Return (some x) pos) F.env) (cv (R.ev x) fun a=>ret (.ret a)) (QF C):=
 .fin (fun _ _ _ _=>wpAny_Return_some) (c.ev F Ω x) fun _ _ _ q=>.ret _ _ q
theorem xp:Sm C F Ω (exec (.Return none pos) F.env) (ret (.ret (.lf .none))) (QF C):=.dA (.pure fun _ _=>.ret _ _ (.lf _ _ .none))
theorem Mn:Sm C F Ω (exec (.Pass pos) F.env) (ret .next) (QF C):=.dA (.pure fun _ _=>.next)
theorem El:Sm C F Ω (exec (.Break pos) F.env) (ret .brk) (QF C):=.dA (.pure fun _ _=>.brk)
theorem uX:Sm C F Ω (exec (.Continue pos) F.env) (ret .cont) (QF C):=.dA (.pure fun _ _=>.cont)
theorem VN(d:cD C R){b o:List Stmt}:Sm C F Ω (exec (.If t b o pos) F.env) (Tq R t (R.fL b) (R.fL o)) (QF C):=
 .seq (fun Z s h=>wpAny_If (wp_mono h fun c s₁ h=>by rcases c with⟨⟩<;>exact h)) (d.gO F Ω t) fun cj _ _ _ q=>.ite q (d.fL F cj b) (d.fL F cj o)
theorem BZ(k:cD C R):Sm C F Ω (exec (.Assert t none pos) F.env) (cv (R.gO t) fun c=>gd c (ret Fl.next)) (QF C):=fun cj w σ H=>
 .bind ((k.gO F Ω t cj w σ H).mono fun p h=>.gd fun q=>wpAny_Assert_holds (wp_mono h fun c s z=>by
  refine dW z ?_;clear z;intro d f g j e;subst j;exact⟨q,d,f,g,.next,e⟩))
theorem PD(c:cD C R){b:List Stmt}:Sm C F Ω (exec (.Try b (e::d) [] [] pos) F.env) (R.fL b) (QF C):=fun cj w σ H=>
 (c.fL F Ω b cj w σ H).mono fun p h=>wpAny_Try_except (bu h (fun f s z=>by
  induction f with
  |next=>exact wpAny_execs_nil z
  |_=>exact z) fun _ _ x=>x.elim)
def Vb(R:Rc)(x:I Fl)(r:List Stmt):I Fl:=cv x fun f=>match f with |.next=>R.fL r|f=>ret f
theorem HU(e:cD C R){st:Stmt}:Sm C F Ω (execs (st::r) F.env) (Vb R (R.ex st) r) (QF C):=
 .bind (e.ex F Ω st) fun cj _ f fl q=>by
  induction q with
  |next=>exact e.fL F cj r
  |ret a v q=>exact .pure fun d c=>.ret a v (q.mono c)
  |brk=>exact .pure fun d c=>.brk
  |cont=>exact .pure fun d c=>.cont
theorem vS(j:VR C Ω a v):Sm C F Ω (storeName F.env x v) (fM x a) QU:=fun cj w σ H=>.bif fun f=>by
 refine cS (H.rel.fr) fun m e k g=>?_;have h:F.env.kindOf x=some .local:=by unfold Env.kindOf;exact eL H.env.scope (aC.mp f)
 refine wpAny_storeName_local h (H.env.loc▸e) (fun l c d=>?_) (by refine eL H.kind ?_;rfl);rw [H.env.loc] at c d;exact bY (H.rel.Ri (j.mono w) e k g (aE _) c d) fun w' r=>(.in w' ⟨r,H.room,H.env⟩ trivial)
theorem lY(c:VR C Ω a v):Sm C F Ω (assign (.Name x pos) F.env v) (fM x a) QU:=(vS c).HW fun _ _ _ _ _ _=>wpAny_assign_Name
theorem Sm.UR{i:I Unit}(h:Sm C F Ω m i QU):Sm C F Ω (m>>=fun _=>PySem.release c ks) i QU:=h.HW fun _ _ _ _ _ _ h=>ai (wp_mono h fun _ _ p=>wpAny_release' p)
theorem FQ(G:Good C)(e:cD C R){o:Expr}(d:VR C Ω a v):Sm C F Ω (assign (.Attribute o name pos) F.env v) (cv (R.ev o) fun c=>FC C.K c name a) QU:=
 .bind (.holding (e.ev F Ω o)) fun cj f c g ho=>.dA (.UR (.holding (yS G ho (d.mono f))))
theorem IW(e:cD C R){o i:Expr}(g:VR C Ω a v):Sm C F Ω (assign (.Subscript o i pos) F.env v) (cv (R.ev o) fun f=>cv (R.ev i) fun c=>yG f c a) QU:=
 .bind (.holding (e.ev F Ω o)) fun cj h f l ho=>.bind (.holding (e.ev F cj i)) fun j d c k hi=>.dA (.UR (.holding (zv (ho.mono d) hi ((g.mono h).mono d))))
theorem Hb(h:plainArg t=true):(assignEach [t] env).map (·.2)=[assign t env]:=by rcases t with⟨⟩<;>first|rfl|exact(aA h).elim
theorem rD(c:cD C R){t x:Expr}(hw:swappedStores [t] x F.env=pure none):Sm C F Ω (exec (.Assign [t] x pos) F.env) (gd (jl x&&plainArg t) (cv (R.ev x) fun a=>cv (R.asg t a) fun _=>ret Fl.next)) (QF C):=
 .gd fun h=>by
  have h:=ab.mp h;exact .Yv (fun Z s k=>wpAny_Assign_stores (wp_mono k fun v s₁ k=>by exact eL (Hb h.2) k) (qo h.1) hw) (c.ev F Ω x) (fun cj _ a v d=>c.asg F cj t a v d) fun _ _ _ _=>.next
theorem LZ(G:Good C):Sm C F Ω (loadName F.env x) (rd (nameOf C.K x)) (QV C):=
 .rd fun _ _ _ H=>.bif fun _=>.bind (.intro fun _ c=>zm G H (by unfold Env.kindOf;exact eL H.env.scope c) H.kind)
theorem yY(c:VR C Ω a v):Sm C F Ω (bindName F.env x v) (fM x a) QU:=(vS c).HW fun _ _ _ _ _ _=>wpAny_bindName
theorem yr(G:Good C)(f:cD C R):Sm C F Ω (exec (.AugAssign (.Name x np) op e pos) F.env)
  (cv (rd (nameOf C.K x)) fun a=>cv (R.ev e) fun b=>cv (yd C.Φ op a b) fun r=>cv (fM x r) fun _=>ret .next) (QF C):=
 .dA (.bind (LZ G) fun cj _ a j d=>.bind (.holding (f.ev F cj e)) fun g c b k hb=>.dA (.bind (.operate (ym G op (d.mono c) hb)) fun h _ r l hr=>.dA (.bind (yY hr) fun _ _ _ _ _=>.pure fun _ _=>.next)))
theorem yv(G:Good C)(d:cD C R){o:Expr}:Sm C F Ω (exec (.AugAssign (.Attribute o name l) op e pos) F.env)
  (cv (R.ev o) fun c=>cv (cv (rd (GK C.K c name)) fun a=>cv (R.ev e) fun b=>yd C.Φ op a b) fun r=>cv (FC C.K c name r) fun _=>ret .next) (QF C):=by
 exact .dA (.bind (d.ev F Ω o) fun cj _ c q ho=>.bind (.holding (.dA (.bind (.rd fun _ w _ H=>AB G H (ho.mono w) true) fun j _ a n f=>.bind (.holding (d.ev F j e)) fun m g b p hb=>.dA (.operate (ym G op (f.mono g) hb))))) fun k h r s hr=>.dA (.bind (.holding (yS G (ho.mono h) hr)) fun _ _ _ _ _=>.release (.pure fun _ _=>.next)))
noncomputable def Ee:Expr->Bool
 |.Slice ..=>false
 |_=>true
theorem Qn{i:Expr}(h:Ee i=true)(ho:VR C Ω j e)(hi:VR C Ω f d)(hb:VR C Ω b c):Sm C F Ω (augStore i e d c) (cv (yG j f b) fun _=>ret .next) (QF C):=by
 have g:Sm C F Ω (PySem.holding [c,e,d] (setItem e d c)>>=fun _=>PySem.release [c,e,d] []>>=fun _=>Pure.pure Flow.next) (cv (yG j f b) fun _=>ret .next) (QF C):=.bind (.holding (zv ho hi hb)) fun _ _ _ _ _=>.release (.pure fun _ _=>.next)
 rcases i with⟨⟩<;>first|exact g|exact(aA h).elim
theorem BX(G:Good C)(f:cD C R){o i:Expr}{l:Pos}{op:Operator}{e:Expr}:Sm C F Ω (exec (.AugAssign (.Subscript o i l) op e pos) F.env)
  (gd (Ee i) (cv (R.ev o) fun d=>cv (R.ev i) fun c=>cv (cv (rd (FP C.K C.Φ d c)) fun a=>cv (R.ev e) fun b=>yd C.Φ op a b) fun r=>cv (yG d c r) fun _=>ret .next)) (QF C):=
 .gd fun h=>.dA (.bind (f.ev F Ω o) fun cj _ d B ho=>.bind (.holding (f.ev F cj i)) fun x j c s hi=>.bind (.holding (.dA (.bind (.rd fun _ w _ H=>(DB G H ((ho.mono j).mono w) (hi.mono w)).mono fun _ k=>k.1) fun p _ a y m=>.bind (.holding (f.ev F p e)) fun q n b A hb=>
  .dA (.operate (ym G op (m.mono n) hb))))) fun t g r D hr=>.dA (Qn h ((ho.mono j).mono g) (hi.mono g) hr))
end
end
section
open PySem.SeqAt
inductive It where
 |str (s:List Nat)
 |tup (xs:List AV)
 |live (j i:Nat)
 |IB (i n:Nat)
def qd(K:Frag)(a:AV)(σ:St):Option It:=match a with
 |.lf x=>(CC x).map fun s=>.str s.cps.toList
 |.tup xs=>some (.tup xs)
 |.obj j=>(listAt σ j).map fun _=>.live j 0
 |.top v=>(refOf v).bind fun t=>(EP (cM K t)).map .tup
 |_=>none
def kW(it:It)(σ:St):Option (Option (AV×It)):=match it with
 |.str r=>match r with
  |[]=>some none
  |c::r=>some (some (.lf (.str ⟨#[c]⟩),.str r))
 |.tup xs=>match xs with
  |[]=>some none
  |x::xs=>some (some (x,.tup xs))
 |.live j i=>(listAt σ j).map fun xs=>xs[i]?.map fun x=>(x,.live j (i+1))
 |.IB i n=>some (bif Nat.blt i n then some (.lf (.int i),.IB (i+1) n) else none)
section
variable{C:Ctx}{F:Fm}{L:Nat}{Ω cb dX cj:Om}{σ τ:St}{v u z:Value}{x:AV}{R:Rc}{pos:Pos}{h':Heap}{a t:Nat}{it:It}
theorem dq.step(S:dq C L Ω a)(w:W L Ω cb):dq C L cb a/\∀o,Ω.h.get? a=some o->cb.h.get? a=some o:=by
 refine bW (S.ob) fun o e b=>?_;have own:∀i,i<Ω.n->a≠(Ω.ρ i).1/\a≠(Ω.ρ i).2:=fun i hi=>⟨(S.own i hi).1.symm,(S.own i hi).2.symm⟩
 refine⟨⟨S.eu,S.lo,fun i hi=>?_,o,w.keep a o e S.eu.symm own,b⟩,fun o q=>w.keep a o q S.eu.symm own⟩;rcases aV i Ω.n with q|q
 .exact eL (w.same i q) (S.own i q)
 .exact ⟨(bX e (w.fresh i q hi).1).symm,(bX e (w.fresh i q hi).2).symm⟩
theorem dq.mo(S:dq C L Ω a)(k:Heap.ExtBut a Ω.h h'):Mo Ω (Ω.mv h' t):=⟨ah _,fun _ _=>rfl,fun b o e c=>k b o (fun z=>by
 refine bW (S.ob) fun o' f d=>?_
 (injection ((z▸e).symm.trans f) with g;subst g)
 exact noConfusion (c.symm.trans d)) e⟩
theorem Rel.fJ(r:Rel C L Ω σ)(S:dq C L Ω a)(c:Ω.s.toks<=t)(k:Heap.ExtBut a Ω.h h'):Rel C L (Ω.mv h' t) σ:=
 have m:=S.mo k;have own:∀i,i<Ω.n->∀o,(Ω.h.get? (Ω.ρ i).1=some o->h'.get? (Ω.ρ i).1=some o)/\(Ω.h.get? (Ω.ρ i).2=some o->h'.get? (Ω.ρ i).2=some o):=fun i hi o=>⟨k _ o (S.own i hi).1,k _ o (S.own i hi).2⟩
 ⟨r.n,r.fr.mono m fun o=>k _ o S.eu,fun i o e=>(r.ob i o e).mono m (fun ob=>(own i (r.lt e) ob).1) fun ob=>(own i (r.lt e) ob).2,r.inj,r.eu,fun b o e=>k b o (bX e S.lo) (r.old b o e),r.uK,r.lo,
  fun i hi=>⟨(r.hi i hi).1.imp fun o=>(own i hi o).1,(r.hi i hi).2.imp fun o=>(own i hi o).2⟩,bC (aS (pos_of_ne_zero r.toks) c)⟩
theorem Hr.fJ(H:Hr C F Ω σ)(S:dq C F.L Ω a)(b:Ω.s.toks<=t)(k:Heap.ExtBut a Ω.h h'):Hr C F (Ω.mv h' t) σ:=⟨H.rel.fJ S b k,H.room,H.env⟩
theorem W.fJ(w:W L dX Ω)(d:dX.h.get? a=none)(f:Ω.s.toks<=t)(k:Heap.ExtBut a Ω.h h'):W L dX (Ω.mv h' t):=
 have ne:∀ {b o},dX.h.get? b=some o->b≠a:=fun e=>bX e d
 ⟨w.le,w.same,w.fresh,fun b o e=>(w.alive b o e).imp fun o'=>k b o' (ne e),fun b o e nl no=>k b o (ne e) (w.keep b o e nl no),fun b o e c=>k b o (ne e) (w.ru b o e c),w.sm.trans (.mk' f)⟩
noncomputable def odd(nm:String):Bool:=(Value.type nm==Value.type "method")||["enumerate","zip","dict_itemiterator","dict_reverseitemiterator","odict_iterator","itertools.zip_longest","itertools.pairwise"].contains nm
def Plain(h:Heap)(a:Addr):Prop:=∃o nm b,h.get? a=some o/\o.cls=.type nm/\o.data=.fields b/\odd nm=false
def qX(C:Ctx)(Ω:Om)(a:Addr):It->Prop
 |.str r=>∃x t i,Ω.h.IsStrIter a (strIterType x) x t i/\x.cps.toList.drop i=r
 |.tup xs=>∃(t:Addr) (b:List Value) (i:Nat),IsTupIter Ω.h a t i/\IsTup Ω.h t b.toArray/\de C Ω xs (b.drop i)
 |.live j i=>j<Ω.n/\Ω.h.IsListIter a (Ω.ρ j).1 i
 |.IB i n=>IsRangeIter Ω.h a (i:Int) ((n:Int)-(i:Int)) 1
theorem qX.mono(m:Mo Ω cb)(k:∀o,Ω.h.get? a=some o->cb.h.get? a=some o)(r:qX C Ω a it):qX C cb a it:=by
 rcases it with c|xs|⟨j,i⟩|⟨i,n⟩
 ·(refine lQ r fun x t i b p=>?_;obtain⟨o,e,q⟩:=b);exact(kj x t i ⟨⟨o,k _ e,q⟩,p⟩)
 ·(refine xT r fun t f i b p g=>?_;obtain⟨o,e,q⟩:=b);exact(kj t f i ⟨⟨o,k _ e,q⟩,sI m p,g.eK m⟩)
 ·(refine bY r fun d b=>?_;refine bW b fun o e q=>?_);exact⟨aS d m.le,eL (m.same j d) (⟨o,k _ e,q⟩)⟩
 .exact k _ r
theorem vT(x):odd (strIterType x)=false:=by
 unfold strIterType;split<;>decide+kernel
theorem qX.plain(r:qX C Ω a it):Plain Ω.h a:=by
 rcases it with c|xs|⟨j,i⟩|⟨i,n⟩
 ·(refine lQ r fun x t i d p=>?_;obtain⟨o,e,f,b⟩:=d);exact(kj o _ _ ⟨e,f,b,vT x⟩)
 ·(refine xT r fun t l i d p g=>?_;obtain⟨o,e,f,b⟩:=d);exact(kj o _ _ ⟨e,f,b,by decide+kernel⟩)
 ·(refine bY r fun k d=>?_;refine cS d fun o e f b=>?_);exact(kj o _ _ ⟨e,f,b,by decide+kernel⟩)
 .exact kj _ _ _ ⟨r,rfl,rfl,by decide+kernel⟩
theorem Plain.ru(r:Plain h a):∃o,h.get? a=some o/\gL o=false:=by
 refine jQ r fun o nm c e e1 e2 b=>⟨o,e,?_⟩
 unfold gL;exact eL e2 (eL e1 ((Bool.or_eq_false_iff.mp b).1))
theorem dq.again(S:dq C L Ω a)(r:Plain h' a):dq C L (Ω.mv h' t) a:=⟨S.eu,S.lo,S.own,r.ru⟩
def Made(C:Ctx)(Ω:Om)(it:It)(Q:Value->Shared->Prop):Prop:=∀o,o.isFreed=false->qX C (Ω.mv (Ω.h.push o) Ω.s.toks) Ω.h.objs.size it->Q (.ref Ω.h.objs.size) (gy Ω.s (Ω.h.push o) Ω.s.toks)
theorem td(G:Good C)(H:Hr C F Ω σ)(d:VR C Ω x v):OP (qd C.K x σ) fun it=>∀Q,Made C Ω it Q->wpAny C.M F.A (pyIter v) Q no Ω.s:=by
 have tup:∀ {b xs c},IsTup Ω.h b (toArray c)->de C Ω xs c->∀Q,Made C Ω (.tup xs) Q->wpAny C.M F.A (pyIter (.ref b)) Q no Ω.s:=fun {b xs c} e r Q h=>
  iter_tuple e (h _ rfl (kj b c 0 ⟨⟨_,bp _ rfl,rfl,rfl⟩,pY e fun _ _ e=>aP _ e,r.mono (L:=F.L) (W.grown (ah _) fun _ _ e=>aP _ e)⟩))
 induction d with
 |lf y v q=>
  induction y with
  |str s=>obtain⟨t,rfl,_⟩:=q.inv;exact fun Q h=>wpAny_pyIter_strU (h _ rfl (kj s _ 0 ⟨⟨_,bp _ rfl,rfl,rfl⟩,rfl⟩))
  |_=>trivial
 |tup xs c a e l s q=>exact tup e ⟨l,q⟩
 |obj j i=>
  exact .map (.intro fun xs ho Q h=>(cw (H.list ho) fun c k e1 e2 m=>(wpAny_pyIter_list ⟨_,e1,rfl,k,rfl⟩ (h _ rfl ⟨i,⟨_,bp _ rfl,rfl,rfl⟩⟩))))
 |top v=>
  induction v with
  |ref b=>
   refine .map (.intro fun xs e=>?_);have hw:cM C.K b=.tup xs:=by
    cases d:cM C.K b<;>rw [d] at e<;>first|exact cX e|((injection e with g;subst g);rfl)
   exact bY (iI G hw) fun f _=>(bW f fun c q r=>(tup (pY q H.keep) ((de.nC G.lI c).of r)))
  |_=>trivial
 |_=>trivial
inductive HY(C:Ctx)(L:Nat)(Ω:Om)(a:Addr):Option (AV×It)->Option Value->Prop
 |stop:HY C L Ω a none none
 |item {x:AV} {v:Value} {it:It} (hv:VR C Ω x v) (hr:qX C Ω a it) (S:dq C L Ω a):HY C L Ω a (some (x,it)) (some v)
theorem HY.el{v:Option Value}{G:Option Value->Prop}(q:HY C L Ω a o v):(o=none->G none->G v)/\∀x it,o=some (x,it)->(∀u,VR C Ω x u->qX C Ω a it->dq C L Ω a->G (some u))->G v:=by
 induction q with
 |stop=>exact⟨fun _ k=>k,fun _ _ e=>cX e⟩
 |item b hr S=>exact⟨fun e=>Cm e,fun x it e k=>k _ ((Prod.mk.inj (bB e)).1▸b) ((Prod.mk.inj (bB e)).2▸hr) S⟩
@[elab_as_elim] theorem HY.Ol{v:Option Value}{G:Option Value->Prop}(q:HY C L Ω a none v)(k:G none):G v:=q.el.1 rfl k
@[elab_as_elim] theorem HY.NY{C:Ctx}{L:Nat}{Ω:Om}{a:Addr}{x:AV}{it:It}{v:Option Value}{G:Option Value->Prop}(q:HY C L Ω a (some (x,it)) v)(k:∀u,VR C Ω x u->qX C Ω a it->dq C L Ω a->G (some u)):G v:=q.el.2 x it rfl k
def Un(C:Ctx)(L:Nat)(Ω:Om)(a:Addr)(x:Option (AV×It))(Q:Option Value->Shared->Prop):Prop:=∀h' t v,Ω.s.toks<=t->Heap.ExtBut a Ω.h h'->HY C L (Ω.mv h' t) a x v->Q v (gy Ω.s h' t)
theorem mU{l:List α}(h:l.drop i=c::r):l[i]?=some c/\l.drop (i+1)=r:=
 ⟨by have e:=az (fun l=>l[0]?) h;rw [getElem?_drop] at e;exact e,by refine eR br (eL h ?_);rfl⟩
theorem wR{l:List α}(h:l.drop i=[]):l[i]?=none:=aT (List.drop_eq_nil_iff.mp h)
theorem kG(H:Hr C F Ω σ)(S:dq C F.L Ω a)(r:qX C Ω a it):OP (kW it σ) fun x=>∀Q,Un C F.L Ω a x Q->wpAny C.M F.A (pyNext (.ref a)) Q no Ω.s:=by
 have item:∀ {h' t x v it},VR C (Ω.mv h' t) x v->qX C (Ω.mv h' t) a it->HY C F.L (Ω.mv h' t) a (some (x,it)) (some v):=fun p q=>.item p q (S.again q.plain)
 have l:=H.room.handled;rcases it with c|xs|⟨j,i⟩|⟨i,n⟩
 .refine lQ r fun y t i hi hd=>?_;have two:strIterType y="str_ascii_iterator"\/strIterType y="str_iterator":=by
   unfold strIterType;split
   .exact .inl rfl
   .exact .inr rfl
  induction c with
  |nil=>
   intro Q h;have d:=getElem?_toList.symm.trans (wR hd);rcases two with e|e<;>rw [e] at hi
   .exact wpAny_pyNext_ascii_end l hi d fun h' k=>h h' _ none (ah _) k .stop
   .exact wpAny_pyNext_wide_end l hi d fun h' k=>h h' _ none (ah _) k .stop
  |cons c rest=>
   intro Q h;have d:=getElem?_toList.symm.trans (mU hd).1;have B:∀cb,VR C cb (.lf (.str ⟨#[c]⟩)) (.str ⟨#[c]⟩ Ω.s.toks):=fun _=>.lf _ _ (.str ⟨#[c]⟩ _ (by show 1<=_;decide) H.rel.toks)
   rcases two with e|e<;>rw [e] at hi
   .exact wpAny_pyNext_ascii_item hi d fun h' f b=>h h' _ _ (aE _) b.extBut (item (B _) (kj y t (i+1) ⟨e▸f,(mU hd).2⟩))
   .exact wpAny_pyNext_wide_item hi d fun h' f b=>h h' _ _ (aE _) b.extBut (item (B _) (kj y t (i+1) ⟨e▸f,(mU hd).2⟩))
 .refine xT r fun t o i hi m w=>?_;induction xs with
  |nil=>exact fun Q h=>next_tuple_end l hi m (bD.trans (wR w.nil_inv)) fun h' k=>h h' _ none (ah _) k .stop
  |cons y rest=>
   intro Q h;exact cw w.cons_inv fun v us hd J D=>(next_tuple_item hi m (bD.trans (mU hd).1) fun h' f b=>h h' _ _ (ah _) b.extBut (item (J.eK (S.mo b.extBut)) (kj t o (i+1) ⟨f,sI (S.mo b.extBut) m,(mU hd).2▸D.eK (S.mo b.extBut)⟩)))
 .refine bY r fun E hi=>(.map (.intro fun xs ho Q h=>(cw (H.list ho) fun o k e1 e2 O=>?_)))
  have g:Ω.h.IsList (Ω.ρ j).1 o.toArray:=⟨_,e1,rfl,k,rfl⟩;cases d:xs[i]? with
  |none=>
   rw [d] at h;exact wpAny_pyNext_list_end l hi g (eL bD (aT (e2.len▸List.getElem?_eq_none_iff.mp d))) fun h' k=>h h' _ none (ah _) k .stop
  |some y=>
   rw [d] at h;exact bW (e2.get d) fun v N G=>(wpAny_pyNext_list_item hi g (bD.trans N) fun h' f b=>h h' _ _ (ah _) b.extBut (item (G.eK (S.mo b.extBut)) ⟨E,f⟩))
 .have r:=r;show OP (some (bif Nat.blt i n then _ else _)) _;cases hb:Nat.blt i n with
  |false=>
   have g:=le_of_not_lt fun z=>by rw [show Nat.blt i n=true from Nat.ble_eq_true_of_le z] at hb;exact(aA (Eq.symm hb)).elim
   exact fun Q h=>wpAny_pyNext_range_end l r (Int.sub_nonpos_of_le (ofNat_le.mpr g)) fun h' k=>h h' _ none (ah _) k .stop
  |true=>
   have g:=Nat.le_of_ble_eq_true hb;exact fun Q h=>wpAny_pyNext_range_item r (Int.sub_pos_of_lt (ofNat_lt.mpr g)) fun h' f b=>h h' _ _ (aE _) b.extBut (item (.lf _ _ (.int _ _)) (by
    show IsRangeIter h' a _ _ 1;refine eL (show((i+1))=(i)+1 by rfl) (eL (show(n)-((i:Int)+1)=(n:Int)-(i:Int)-1 by exact(Int.sub_sub _ _ _).symm) ?_);exact f))
end
end
section
open PySem.SeqAt
def turn(i k:I Fl):I Fl:=cv i fun fl=>match fl with
 |.next=>k
 |.cont=>k
 |.brk=>ret .next
 |.ret v=>ret (.ret v)
def Xr(R:Rc)(t:Expr)(b:List Stmt)(n:Nat):I Fl:=Nat.rec eB (fun _ k=>cv (R.gO t) fun c=>cond c (turn (R.fL b) k) (ret .next)) n
def Mv(R:Rc)(t:Expr)(b:List Stmt)(n:Nat):It->I Fl:=Nat.rec (fun _=>eB) (fun _ k it σ=>(kW it σ).bind fun x=>dg x (fun p=>cv (R.asg t p.1) fun _=>turn (R.fL b) (k p.2)) (ret .next) σ) n
noncomputable def turns:Nat:=300
section
variable{C:Ctx}{F:Fm}{L:Nat}{Ω cb dX cj:Om}{σ τ:St}{v u z:Value}{x:AV}{R:Rc}{pos:Pos}{h':Heap}{a t:Nat}{it:It}{p:Fl×St}{b:List Stmt}{Z:Result->Shared->Prop}{N:Nat}
theorem zQ(m:cD C R)(w:W F.L dX Ω)(H:Hr C F Ω σ)(e:turn (R.fL b) k σ=some p)(l:∀cb j,W F.L Ω cb->Hr C F cb j->k j=some p->Y .next cb.s/\Y .cont cb.s)
  (r:∀s',cW C F dX p.2 (QF C) p.1 .next s'->Y .brk s') (n:∀v s',cW C F dX p.2 (QF C) p.1 (.ret v) s'->Y (.ret v) s'):wpAny C.M F.A (execs b F.env) Y E Ω.s:=by
 refine bW (aM.mp e) fun o e1 e2=>?_;clear e;obtain⟨fl,i⟩:=o
 refine nu ((m.fL F Ω b Ω .refl σ H).of e1) fun d f g c q=>?_;clear e1 m H;cases q with
 |next=>exact(l d i g c e2).1
 |cont=>exact(l d i g c e2).2
 |brk=>(injection e2 with h;subst h);exact r _ ⟨d,w.trans g,c,.next,rfl⟩
 |ret a v q=>(injection e2 with h;subst h);exact n _ _ ⟨d,w.trans g,c,.ret a v q,rfl⟩
def XE(C:Ctx)(F:Fm)(dX:Om)(f:Nat->I Fl)(p:Fl×St)(n:Nat)(s:Shared):Prop:=∃Ω σ,W F.L dX Ω/\Hr C F Ω σ/\f n σ=some p/\Ω.s=s
theorem yo(l:cD C R){t:Expr}(g:∀f s',cW C F dX p.2 (QF C) p.1 f s'->Z (.ok f) s')(H:Hr C F dX σ)(e:Xr R t b N σ=some p):codeAny C.M F.A (.whileLoop t b [] F.env) Z dX.s:=by
 refine codeAny_whileLoop (XE C F dX (Xr R t b) p) ?_ N (dJ dX σ ⟨.refl,H,e,rfl⟩);intro n s k;refine rm k fun Ω σ w H e m=>?_;clear k;subst m
 rcases n with _|n
 .exact cX e
 .refine bW (aM.mp e) fun d e1 e2=>?_;clear e;obtain⟨c,B⟩:=d
  refine nu ((l.gO F Ω t Ω .refl σ H).of e1) fun q D h j d=>?_;clear e1 H e;subst d
  induction c with
  |true=>exact zQ l (w.trans h) j e2 (fun cb o w' H' y=>have i:=⟨n,bF n,cb,o,(w.trans h).trans w',H',y,rfl⟩;⟨i,i⟩) (fun s'=>g .next s') fun v s'=>g (.ret v) s'
  |false=>(injection e2 with r;subst r);exact wpAny_execs_nil (g _ _ ⟨q,w.trans h,j,.next,rfl⟩)
theorem DW(c:cD C R){t:Expr}:Sm C F Ω (exec (.While t b [] pos) F.env) (Xr R t b turns) (QF C):=fun _ _ _ H=>.intro fun _ e=>wpAny_While (yo c (fun _ _=>id) H e)
theorem nY{t:Expr}(h:Plain s.heap a)(d:Q () s):wpAny C.M F.A (letOwnedTupleGo t (.ref a) v) Q E s:=by
 have q:wpAny C.M F.A (Pure.pure ()) Q E s:=aL d;refine jQ h fun o nm g e1 e2 e f=>?_
 have go:∀ts c p,wpAny C.M F.A (letOwnedTupleGo (.Tuple ts c p) (.ref a) v) Q E s:=fun ts c p=>by
  induction v with
  |ref b=>
   exact ai (wpAny_load e1 (eL e2 (eL e (wpAny_ite_false (by refine eL ((Bool.or_eq_false_iff.mp f).2) ?_;rfl) q))))
  |_=>exact q
 cases t with
 |Tuple=>exact go _ _ _
 |List=>exact go [] default default
 |_=>exact q
def Zb(C:Ctx)(F:Fm)(dX:Om)(a:Addr)(f:Nat->It->I Fl)(p:Fl×St)(n:Nat)(s:Shared):Prop:=∃Ω σ it,W F.L dX Ω/\Hr C F Ω σ/\dq C F.L Ω a/\qX C Ω a it/\f n it σ=some p/\Ω.s=s
theorem Gg(D:cD C R){t:Expr}(d:∀f s',cW C F dX p.2 (QF C) p.1 f s'->Z (.ok f) s')(y:dX.h.get? a=none)(E:W F.L dX Ω)(H:Hr C F Ω σ)(S:dq C F.L Ω a)(r:qX C Ω a it)(e:Mv R t b N it σ=some p):codeAny C.M F.A (.forLoop t (.ref a) b [] F.env) Z Ω.s:=by
 refine codeAny_forLoop_any (Zb C F dX a (Mv R t b) p) ?_ N (kj Ω σ it ⟨E,H,S,r,e,rfl⟩);intro n s B;refine MH B fun Ω σ it w H S r e J=>?_;clear B;subst J
 clear E;rcases n with _|n
 .exact cX e
 .refine bW (aM.mp e) fun x e1 e2=>(bu ((kG H S r).of e1 _ fun h' t v c k q=>?_) (fun _ _ x=>x) fun _ _ x=>x.elim)
  have j:=w.fJ y c k;have l:=H.fJ S c k;clear c k e1 y H S r e;induction q with
  |stop=>(injection e2 with U;subst U);exact wpAny_execs_nil (d _ _ ⟨_,j,l,.next,rfl⟩)
  |item O hr X=>
   refine bW (aM.mp e2) fun P e3 e4=>?_;clear e2 H S r e;obtain⟨_,lV⟩:=P
   exact nY hr.plain (nu ((D.asg F _ _ _ _ O _ .refl σ l).of e3) fun gR _ o G _=>(zQ D (j.trans o) G e4 (fun cb T w' H' V=>have g:=o.trans w';have m:=X.step g;have i:=⟨n,bF n,cb,T,_,j.trans g,H',m.1,hr.mono g.mo m.2,V,rfl⟩;⟨i,i⟩) (fun s'=>d .next s') fun v s'=>d (.ret v) s'))
theorem iA(h:fE e=true)(x):foldedSetIterable e env x=pure x:=by
 rcases e with⟨⟩<;>first|rfl|exact(aA h).elim
theorem Po(G:Good C)(j:cD C R){t e:Expr}:Sm C F Ω (exec (.For t e b [] pos) F.env) (gd (fE e) (cv (R.ev e) fun x=>cv (rd (qd C.K x)) fun it=>Mv R t b turns it)) (QF C):=fun cj w σ H=>.gd fun n=>.intro fun p e1=>by
 refine bW (aM.mp e1) fun d e2 g=>?_;clear w e1;obtain⟨x,J⟩:=d
 refine bW (aM.mp g) fun d i D=>?_;clear g;obtain⟨it,E⟩:=d
 refine bW (aQ.mp i) fun _ l m=>?_;clear i;(injection m with A y;subst A;subst y)
 refine wpAny_For (wp_mono ((j.ev F cj e cj .refl σ H).of e2) fun v s' z=>?_) (iA n);refine dW z fun f B c s r=>?_;subst r
 refine(td G c s).of l _ fun o fr hr=>?_;have k:∀b o',f.h.get? b=some o'->(f.h.push o).get? b=some o':=fun _ _ e=>aP _ e
 refine Gg j ?_ (cK _ (ah _)) (W.grown (ah _) k) ⟨c.rel.grown (ah _) k,c.room,c.env⟩ (hr.plain.ru.elim fun o' q=>c.rel.uN (cK _ (ah _)) q.1 q.2) hr D;exact fun _ _ z=>z.from B
end
end
section
open PySem.SeqAt
def DM(k:Nat)(x:AV):I AV:=fun σ=>dg (lF σ k) (fun p=>(gd (decide (p.1.length<=1000)&&decide (p.2.2.length<=1000)) (cv (upd k (.fK p.1 p.2.1 (p.2.2++[x]))) fun _=>ret (.lf .none)):I AV) σ)<|(listAt σ k).bind fun xs=>(gd (decide (xs.length<=big)) (cv (upd k (.list (xs++[x]))) fun _=>ret (.lf .none)):I AV) σ
def HQ(R:Rc)(elt t:Expr)(j:Nat)(n:Nat):It->I Unit:=Nat.rec (fun _=>eB) (fun _ k it σ=>(kW it σ).bind fun x=>dg x (fun p=>cv (R.asg t p.1) fun _=>cv (R.ev elt) fun v=>cv (DM j v) fun _=>k p.2) (ret ()) σ) n
noncomputable def sO(sc:Scope):Bool:=(sc.kind==.function)&&sc.names.all fun y=>(y.2 !=.cell)&&((y.2 !=.free)&&((y.2 !=.local)||(sc.names.lookup y.1==some .local)))
def Ww(R:Rc)(elt t:Expr)(sc:Scope)(it:It):I AV:=fun σ=>(HQ R elt t σ.obj.length turns it ⟨sc,[],σ.obj++[.list []],σ.dep⟩).map fun p=>(.obj σ.obj.length,⟨σ.sc,σ.loc,p.2.obj,σ.dep⟩)
section
variable{C:Ctx}{F:Fm}{L M:Nat}{Ω cb dX cj:Om}{σ τ:St}{v u z:Value}{x:AV}{R:Rc}{pos:Pos}{h':Heap}{a t j N D:Nat}{it:It}{p:Unit×St}{b:List Stmt}{Z:Result->Shared->Prop}
theorem xC(g:VR C Ω (.obj j) l)(f:VR C Ω x v):Sm C F Ω (call (.builtin "list.append") [l,v]) (DM j x) (QV C):=fun cj w σ H=>.dg (fun p ho=>.gd fun q=>by
 obtain⟨xs,i,zs⟩:=p;refine cw (H.fK ho) fun d k e1 e2 h=>?_
 obtain rfl:=(g.mono w).fQ;have q:=ab.mp q;have len:=yV (x:=C.θ i) (ax q.1) (ax q.2);exact append_at e1 (fun h' c hd=>cW.upd H (jv ho) (.inl rfl) (ah _) c ⟨_,hd⟩ (fun cb w' e=>⟨d++[v],_,eL e (eL (hd ..) (eL (List.push_toArray ..) rfl)),by
  refine eR (aw ..) (eR (aw ..) (eL (aw xs ..) ?_));exact(e2.append (.cons (f.mono w) .nil)).mono w',by
  refine eR (aw ..) (eR (aw ..) (eL (aw xs ..) (eL aa ?_)));exact ag (succ_le_succ len) (by decide)⟩) fun _=>.lf _ _ .none) (e2.size▸cA (ag len (by decide)))) (.bind (.intro fun xs ho=>.gd fun q=>by
 refine cw (H.list ho) fun d k e1 e2 h=>?_;obtain rfl:=(g.mono w).fQ
 have q:=ax q;exact append_at e1 (fun h' c hd=>cW.upd H (gB ho) (.inl rfl) (ah _) c ⟨_,hd⟩ (fun cb w' e=>(dJ (d++[v]) _ ⟨by exact eL e (eL (hd ..) (eL (List.push_toArray ..) rfl)),(e2.append (.cons (f.mono w) .nil)).mono w',eL aa (ag (succ_le_succ q) (by decide))⟩)) fun _=>.lf _ _ .none) (e2.size▸cA q)))
def Zh(C:Ctx)(F:Fm)(dX:Om)(a D j:Nat)(f:Nat->It->I Unit)(p:Unit×St)(n:Nat)(s:Shared):Prop:=∃Ω σ it,W F.L dX Ω/\Hr C F Ω σ/\dq C F.L Ω a/\qX C Ω a it/\VR C Ω (.obj j) (.ref D)/\f n it σ=some p/\Ω.s=s
theorem Sm.go{Q:Rl β α}(h:Sm C F Ω m i Q)(w:W F.L Ω cj)(H:Hr C F cj σ)(e:i σ=some q)(k:∀cb a,W F.L cj cb->Hr C F cb q.2->Q cb q.1 a->Y a cb.s):wpAny C.M F.A m Y E cj.s:=
 bu ((h cj w σ H).of e) (fun a s' z=>by
  refine dW z ?_;clear z;intro c d f q g;subst g;exact k c a d f q) fun _ _ x=>x.elim
theorem dk(e:cv i f σ=some r):∃b τ,i σ=some (b,τ)/\f b τ=some r:=
 (aM.mp e).elim fun q h=>(dJ q.1 q.2 h)
theorem CK(g:cD C R){elt t:Expr}{k:I Unit}(H:Hr C F Ω σ)(o:VR C Ω x v)(hD:VR C Ω (.obj j) (.ref D))(e:cv (R.asg t x) (fun _=>cv (R.ev elt) fun v=>cv (DM j v) fun _=>k) σ=some p){Y:Shared->Prop}
  (S:∀cb f,W F.L Ω cb->Hr C F cb f->k f=some p->Y cb.s):wpAny C.M F.A (assign t F.env v) (fun _ U=>wpAny C.M F.A (eval elt F.env) (fun x O=>wpAny C.M F.A (call (.builtin "list.append") [.ref D,x]) (fun _ w=>Y w) E O) E U) E Ω.s:=by
 exact eF (dk e) fun _ lV T V=>(eF (dk V) fun y SV J i=>(eF (dk i) fun _ r m P=>((g.asg F _ _ _ _ o).go .refl H T fun gR _ c h _=>(g.ev F _ elt).go .refl h J fun X vy d n G=>(xC ((hD.mono c).mono d) G).go .refl n m fun B _ q l _=>S B r ((c.trans d).trans q) l P)))
def zN(C:Ctx)(elt iter:Expr)(x:Str)(c:Pos)(sc:Scope)(pos:Pos)(j:Nat)(it:It)(σ τ:St):Prop:=∀F dX Ω a D Z,(∀cb,W F.L dX cb->Hr C F cb τ->VR C cb (.obj j) (.ref D)->Z (.ok .next) cb.s)->dX.h.get? a=none->W F.L dX Ω->Hr C F Ω σ->dq C F.L Ω a->qX C Ω a it->VR C Ω (.obj j) (.ref D)->
 codeAny C.M F.A (.compLoop (.ListComp elt [⟨.Name x c,iter,[],0⟩] sc pos) 0 (.ref a) (.ref D) F.env) Z Ω.s
theorem Bl(T:cD C R){elt iter:Expr}{x:Str}{f:Pos}{sc:Scope}(e:HQ R elt (.Name x f) j N it σ=some p):zN C elt iter x f sc pos j it σ p.2:=fun F dX Ω a D Z E m y H S r hD=>by
 refine codeAny_compLoop_tests (Zh C F dX a D j (HQ R elt (.Name x f) j) p) (fun n s i=>(QW i ?_)) N (kj Ω σ it ⟨y,H,S,r,hD,e,rfl⟩);clear i;intro Ω σ it w H S r hD e B;clear y;subst B;rcases n with _|n
 .exact cX e
 .refine bW (aM.mp e) fun x e1 e2=>(bu ((kG H S r).of e1 _ fun h' t v c k q=>?_) (fun _ _ x=>x) fun _ _ x=>x.elim)
  have o:=w.fJ m c k;have g:=H.fJ S c k;have d:=hD.eK (S.mo (t:=t) k);clear c k e1 w H S r hD e m;induction q with
  |stop=>(injection e2 with J;subst J);exact E _ o g d
  |item A hr P=>exact bu (CK T g A d e2 fun cb G w' H' O=>have l:=P.step w';⟨n,bF n,cb,G,_,o.trans w',H',l.1,hr.mono w'.mo l.2,d.mono w',O,rfl⟩) (fun _ _ h=>wpAny_tests_nil h) fun _ _ h=>h
theorem Rel.frame(r:Rel C L Ω σ)(sc)(d)(f:nh C Ω M es)(own:∀i,i<Ω.n->M≠(Ω.ρ i).1/\M≠(Ω.ρ i).2)(lo:C.h₀.get? M=none):Rel C M Ω ⟨sc,es,σ.obj,d⟩:=
 ⟨r.n,f,r.ob,r.inj,own,r.old,lo,r.lo,r.hi,r.toks⟩
theorem yf(r:qX C Ω a it)(q:Q (.ref a) Ω.s):wpAny C.M A (pyIter (.ref a)) Q E Ω.s:=by
 rcases it with c|xs|⟨j,i⟩|⟨i,n⟩
 .refine lQ r fun x t i hi _=>?_;unfold strIterType at hi
  split at hi
  .exact wpAny_pyIter_striter_ascii hi q
  .exact wpAny_pyIter_striter_wide hi q
 .refine lQ r fun t d i hi _=>?_;exact wpAny_pyIter_tupleiter hi q
 .refine bY r fun _ hi=>?_;exact wpAny_pyIter_listiter hi q
 .exact wpAny_pyIter_rangeiter r q
end
end
section
open PySem.SeqAt
section
theorem ot(r:Rel C L Ω σ){cb:Om}(e:Ω.h.get? M=none)(a:Rel C M cb c):dq C L cb M:=
 ⟨r.lM.elim fun _ x=>bX x e,a.uK,fun i hi=>⟨(a.eu i hi).1.symm,(a.eu i hi).2.symm⟩,by
  refine bW (a.fr) fun m b _=>(cN (a.lM) fun o q=>?_)
  exact⟨o,q,kJ b q⟩⟩
theorem yx(H:Hr C F Ω σ)(f:Ω.s.toks<=t)(k:∀b o,Ω.h.get? b=some o->a.get? b=some o)(hD:Ω.h.get? D=none)(c:Ω.h.get? M=none)(ne:M≠D)(d:a.get? D=some (listOf ([]:List Value).toArray 0))(g:a.Ns M (fun x=>([]:List (Str×Value)).lookup x))
  (V:ve j sc M):W M Ω ((Ω.mv a t).add (D,D))/\Hr C ⟨F.A,j,M⟩ ((Ω.mv a t).add (D,D)) ⟨sc,[],σ.obj++[.list []],σ.dep⟩/\VR C ((Ω.mv a t).add (D,D)) (.obj σ.obj.length) (.ref D):=by
 refine bY (H.rel.alloc (o:=.list []) f k hD hD ⟨_,d⟩ ⟨_,d⟩ fun cb w e=>(dJ ([]) 0 ⟨by exact eL e d,.nil,zero_le _⟩)) fun w r=>?_;have v:VR C ((Ω.mv a t).add (D,D)) (.obj σ.obj.length) (.ref ((gQ Ω.ρ Ω.n (D,D) σ.obj.length).1)):=.obj _ (H.rel.n▸bF _)
 rw [H.rel.n,hY] at v;exact⟨(W.grown f k).add hD hD,⟨r.frame sc σ.dep (nh.of .nil g) (mI (P:=fun p=>M≠p.1/\M≠p.2) (fun i hi=>⟨(H.rel.hi i hi).1.elim fun _ x=>(bX x c).symm,(H.rel.hi i hi).2.elim fun _ x=>(bX x c).symm⟩) ⟨ne,ne⟩) (match q:C.h₀.get? M with|none=>rfl|some o=>cX (c.symm.trans (H.rel.old M o q))),H.room,V⟩,H.rel.n▸v⟩
theorem yu(H:Hr C F Ω σ){cb:Om}(a:Ω.h.get? M=none)(w:W M Ω cb)(r:Rel C M cb c)(b:Heap.SameBut M cb.h d)(e:VR C cb x v):cW C F Ω ⟨σ.sc,σ.loc,c.obj,σ.dep⟩ (QV C) x v (gy cb.s d cb.s.toks):=by
 refine bY (H.rel.leave a w r σ.sc σ.dep) fun w' f=>?_;have S:=ot H.rel a r
 exact .in (w'.fJ a (ah _) b.extBut) ⟨f.fJ S (ah _) b.extBut,H.room,H.env⟩ (e.eK (S.mo b.extBut))
structure QK(sc:Scope):Prop where
 kind:sc.kind=.function
 cell:∀y∈sc.names,y.2≠.cell
 free:∀y∈sc.names,y.2≠.free
 loc:∀y∈sc.names,y.2=.local->sc.names.lookup y.1=some .local
theorem rO(h:sO sc=true):QK sc:=by
 have h:=ab.mp h;have g:=fun y a=>(ab.mp (ak.mp h.2 y a))
 exact⟨aC.mp h.1,fun y a=>bne_iff_ne.mp (g y a).1,fun y a=>bne_iff_ne.mp (ab.mp (g y a).2).1,fun y a q=>(Bool.or_eq_true_iff.mp (ab.mp (g y a).2).2).elim (fun z=>absurd q (bne_iff_ne.mp z)) fun z=>aC.mp z⟩
theorem rF{elt:Expr}{py:Pos}(H:Hr C F Ω σ){d f:Heap}{t l:Nat}(E:Ω.s.toks<=t)(z:t<=l)(j:Ω.h.get? a=none)(g:d.get? D=none)(n:d.get? M=none)(ne:M≠D)(r:∀b o,Ω.h.get? b=some o->d.get? b=some o)(k:∀b o,d.get? b=some o->f.get? b=some o)
  (hr:qX C (Ω.mv d t) a it) (U:f.get? D=some (listOf ([]:List Value).toArray 0)) (B:f.Ns M (fun x=>([]:List (Str×Value)).lookup x)) (V:ve w sc M) (T:zN C elt e y py sc pos σ.obj.length it ⟨sc,[],σ.obj++[.list []],σ.dep⟩ S)
  (N:∀cb,Ω.h.get? M=none->W M Ω cb->Rel C M cb S->VR C cb (.obj σ.obj.length) (.ref D)->Z (.ok .next) cb.s):codeAny C.M F.A (.compStart (.ListComp elt [⟨.Name y py,e,[],0⟩] sc pos) 0 (.ref a) (.ref D) w) Z (gy Ω.s f l):=by
 have back:∀c,d.get? c=none->Ω.h.get? c=none:=fun c O=>match q:Ω.h.get? c with
  |none=>rfl
  |some o=>cX (O.symm.trans (r c o q))
 refine bW (hr.plain.ru) fun o u _=>(fq (yx H (ag E z) (fun b o e=>k b o (r b o e)) (back _ g) (back _ n) ne U B V) fun J G hD=>?_)
 have m:=hr.mono (((W.grown (L:=M) z k).add g g).mo:Mo (Ω.mv d t) ((Ω.mv f l).add (D,D))) (k a);have v:=bX u g;have fin:=T ⟨F.A,w,M⟩ _ _ _ _ Z (fun cb w' H' X=>N cb (back _ n) w' H'.rel X) j J G (⟨(bX u n).symm,(match q:C.h₀.get? a with|none=>rfl|some o=>cX (j.symm.trans (H.rel.old a o q))),mI (P:=fun p=>p.1≠a/\p.2≠a) (fun i hi=>⟨(H.rel.hi i hi).1.elim fun _ x=>bX x j,(H.rel.hi i hi).2.elim fun _ x=>bX x j⟩) ⟨v.symm,v.symm⟩,m.plain.ru⟩:dq C M ((Ω.mv f l).add (D,D)) a) m hD;exact codeAny_compStart_list fin (yf m fin)
theorem tR(h:Heap)(o):(h.push o).objs.size=h.objs.size+1:=Heap.size_push ..
end
end
section
open PySem.SeqAt
def xH(es a:List (Str×AV)):List (Str×AV):=es.foldl (fun a p=>putD a p.1 p.2) a
noncomputable def xo(R:Rc):List (Option Expr)->List Expr->I (List (Str×AV))
 |[]=>fun _=>ret []
 |k::ks=>fun a=>match a with
  |[]=>eB
  |v::a=>opt k fun k=>cv (R.ev k) fun b=>opt (BU b) fun x=>cv (R.ev v) fun c=>cv (xo R ks a) fun r=>ret ((x,c)::r)
def Nx(j:Nat)(es:List (Str×AV)):I AV:=fun σ=>(dictAt σ j).bind fun a=>(gd (a.isEmpty&&decide ((xH es []).length<=100)) (cv (upd j (.dict (xH es []))) fun _=>ret (.obj j)):I AV) σ
def NH(R:Rc)(ks:List (Option Expr))(a:List Expr):I AV:=gd (ks.all (·.isSome)&&(decide (ks.length=a.length)&&(!ks.isEmpty&&decide (ks.length<=15)))) fun σ=>cv (new (.dict [])) (fun _=>cv (xo R ks a) (Nx σ.obj.length)) σ
section
variable{C:Ctx}{F:Fm}{L M:Nat}{Ω cb dX cj:Om}{σ τ:St}{v u z:Value}{x:AV}{R:Rc}{pos:Pos}{h':Heap}{a t j N D:Nat}{it:It}
theorem qP(e:opt o f σ=some r):∃b,o=some b/\f b σ=some r:=by
 rcases o with _|b
 .exact cX e
 .exact ⟨b,rfl,e⟩
theorem fW.merge(r:fW C Ω es b):∀ {S} {T},fW C Ω S T->fW C Ω (xH es S) (merged T b):=by
 induction r with
 |nil=>exact id
 |@cons p q es b h _ d=>
  obtain⟨x,a⟩:=p;obtain⟨y,v⟩:=q;refine bY h fun c h=>?_
  subst c;exact fun s=>d (fW.stored s _ h)
noncomputable abbrev QP(C:Ctx):Rl (List (Str×AV)) (List (Value×Value)):=fun Ω es r=>∃b,Carries (strKind C.prog C.w) r b/\fW C Ω es b
theorem GJ(g:cD C R):∀ks d (Ω:Om),decide (ks.length=d.length)=true->Sm C F Ω (evalPairs (pairTrees ks d F.env pos)) (xo R ks d) (QP C):=by
 intro ks;induction ks with
 |nil=>
  intro d Ω h;rcases d with _|⟨v,d⟩
  .exact fun _ _ _ H=>pairTrees_nil_walk (cW.fF H ⟨[],trivial,.nil⟩)
  .exact jD h
 |cons k ks Z=>
  intro d Ω h;rcases d with _|⟨v,d⟩
  .exact jD h
  refine fun cj w σ H=>.intro fun p e=>(bW (qP e) fun k f s=>?_)
  subst f;refine eF (dk s) fun kv fi e1 E=>(bW (qP E) fun x ex l=>(eF (dk l) fun vv lV e2 m=>(eF (dk m) fun r SV J X=>?_)))
  (injection X with T;subst T)
  refine pairTrees_cons_walk ((g.ev F Ω k).go w H e1 fun U a B o G=>(g.ev F U v).go .refl o e2 fun V b y i P=>(Z d V (bo (Nat.succ.inj (ax h)))).go .refl i J fun O rs A q n=>⟨O,(B.trans y).trans A,q,(bW n fun S c en=>(bW ((mJ G).of ex) fun t f _=>?_)),rfl⟩);clear B o G y i q n J e2 m ex l e1 E s w H e g Ω;subst f;exact⟨(x,b)::S,⟨isStrOf x t,rfl,c⟩,.cons ⟨rfl,P.mono A⟩ en⟩
theorem wX(H:Hr C F Ω σ):cW C F Ω { σ with obj:=σ.obj++[.dict []] } (fun Ω a v=>VR C Ω a v) (.obj σ.obj.length) (.ref Ω.h.objs.size) (gy Ω.s (Ω.h.push { cls:=.type "dict",data:=.dict #[] }) Ω.s.toks):=
 have hd:=Heap.DictOf.new Ω.h
 .new H (ah _) (fun _ _ e=>aP _ e) (cK _ (ah _)) (cK _ (ah _)) (fG hd) (fG hd) (fun cb _ e=>⟨[],e▸hd,.nil,zero_le _⟩) fun _ _ q=>q
theorem DD:Sm C F Ω (eval (.Dict [] [] pos) F.env) (new (.dict [])) (QV C):=fun _ _ _ H=>wpAny_Dict_empty (wX H)
theorem KV(H:Hr C F Ω σ)(d:VR C Ω (.obj j) (.ref D))(q:QP C Ω es rs)(l:rs.length<=15):OP (Nx j es σ) fun p=>wpAny C.M F.A (storeAll D rs) (fun _ s=>cW C F Ω p.2 (QV C) p.1 (.ref D) s) no Ω.s:=.bind (.intro fun n b=>.gd fun g=>by
 have g:=ab.mp g;refine bW q fun h c en=>(cS (H.dict b) fun o m k _=>?_)
 obtain rfl:=bj.mp g.1;cases k
 (injection (d.fQ) with i;subst i)
 refine wpAny_storeAll rs h [] Ω.s _ c m (eL c.length ?_) fun h' hd f=>cW.upd H (eD b) (.inl rfl) (aK _ _) f (fG hd) (fun cb w' e=>⟨_,eL e hd,(fW.merge en .nil).mono fun _ _ z=>⟨z.1,z.2.mono w'⟩,ax g.2⟩) fun w'=>d.mono w'
 exact ag (Nat.le_of_eq (Nat.zero_add _)) (ag l (by decide)))
theorem JG(O:cD C R){ks:List (Option Expr)}{b:List Expr}:Sm C F Ω (eval (.Dict ks b pos) F.env) (NH R ks b) (QV C):=.gd fun g=>fun cj w σ H=>.intro fun p e=>by
 rw [aW,aW,aW] at g;refine eF (dk e) fun _ _ e1 e2=>?_
 (injection e1 with d;injection d with d r;subst d;subst r)
 refine eF (dk e2) fun es T E J=>(dW (wX H) fun c y n o B=>?_)
 have k:=ax g.2.1;refine wpAny_Dict_any g.1 k (fun z=>by rw [z] at g;exact noConfusion g.2.2.1) (ax g.2.2.2) ?_;have go:wpAny C.M F.A (evalPairs (pairTrees ks b F.env pos)) (fun b s₁=>wpAny C.M F.A (storeAll cj.h.objs.size b) (fun _ G=>cW C F cj p.2 (QV C) p.1 (.ref cj.h.objs.size) G) no s₁) no c.s:=
  wp_mono (wpAny_evalPairs_len ((GJ O ks b c g.2.1 c .refl _ n).of E)) fun rs s z=>by
   refine bY z fun m f=>(dW f ?_)
   clear f;intro S i l q P;subst P;exact wp_mono ((KV l (o.mono i) q (eL m (eL ((pairTrees_length ks b F.env pos g.1 k) ..) (ax g.2.2.2)))).of J) fun _ _ z=>z.from (y.trans i)
 rw [B] at go;exact go
end
end
section
open PySem.SeqAt
noncomputable def Nb(l u:Option (Int×Tok))(n:Nat):List Nat:=sliceRange (sliceBounds (l.map (·.1)) (u.map (·.1)) none n).1 (sliceBounds (l.map (·.1)) (u.map (·.1)) none n).2.1 (sliceBounds (l.map (·.1)) (u.map (·.1)) none n).2.2
def BO(xs:List α)(l u:Option (Int×Tok)):List α:=(Nb l u xs.length).filterMap (xs[·]?)
def pH(R:Rc)(x:Option Expr):I AV:=match x with
 |none=>ret (.lf .none)
 |some x=>R.ev x
def NK(a:AV):Option (Option (Int×Tok)):=(iB a).bind iN
def RG(K:Frag)(Φ:List Fact)(o:AV)(p:AV×AV):I AV:=dg (iB o) (fun x=>opt (iB p.1) fun y=>opt (iB p.2) fun z=>rd fun _=>(kH Φ .slice [x,y,z]).map .lf)
 fun σ=>(oB K σ o).bind fun xs=>(NK p.1).bind fun l=>(NK p.2).bind fun u=>gN xs.length (gN (BO xs l u).length (new (.list (BO xs l u)))) σ
section
variable{C:Ctx}{F:Fm}{L M:Nat}{Ω cb dX cj:Om}{σ τ:St}{v u z vl vu:Value}{a b:AV}{R:Rc}{pos:Pos}{h':Heap}{x y:bQ}{it:It}{A:Around}{s:Shared}
theorem oU(h:LR x v):OP (iN x) fun l=>∃p,v=partValue p/\p.map (·.1)=l.map (·.1):=by
 induction h with
 |none=>exact⟨none,rfl,rfl⟩
 |int i t=>exact⟨some (i,t),rfl,rfl⟩
 |_=>trivial
theorem EY(p):IsPart (partValue p) (p.map (·.1)):=by
 rcases p with _|q
 .exact .none
 .exact .int _ _
theorem GN(m:s.toks≠0){x y z:bQ}(r:LR x v)(w:LR y vl)(d:LR z vu){a:Addr}(n:s.heap.IsSliceOf a vl vu .none):OP (UQ .slice x y z) (Lw C.M A s (getItem v (.ref a))):=by
 induction r with
 |str x t B k=>
  refine .bind ((oU w).mono fun l j=>.bind ((oU d).mono fun u g=>(bW j ?_)));clear j;intro p f e1;subst f;refine bW g ?_;clear g;intro q f e2;subst f;have e:slicePicked x p q none=slicePicked x l u none:=by unfold slicePicked;exact eL e1 (eL e2 rfl)
  refine .bif fun d Z h=>wpAny_getItem_str_slice (st:=none) (by refine cS n fun o a b c=>?_;exact⟨o,a,b,c⟩) rfl ?_
  unfold sliceMade;refine eL e ?_;rcases i:(slicePicked x l u none).length==x.length with _|_
  .rw [i] at h d;exact⟨cA (ax d),h _ _ (aE _) (.str _ _ (cA (ax d)) m)⟩
  .rw [i] at h;exact h _ _ (ah _) (.str x t B k)
 |_=>trivial
theorem de.pick(r:de C Ω xs g):∀c:List Nat,de C Ω (c.filterMap (xs[·]?)) (c.filterMap (g[·]?)):=by
 intro c;induction c with
 |nil=>exact .nil
 |cons i c f=>
  refine eL (oX ..) (eL (oX ..) ?_);rcases d:xs[i]? with _|a
  .exact eL (aT (r.len▸List.getElem?_eq_none_iff.mp d)) f
  .exact bW (r.get d) fun v e q=>(eL e (.cons q f))
theorem Fo(r:de C Ω xs c)(l u:Option (Int×Tok)):de C Ω (BO xs l u) (slicePick c.toArray (l.map (·.1)) (u.map (·.1)) none).toList:=by
 have e:(slicePick c.toArray (l.map (·.1)) (u.map (·.1)) none).toList=BO c l u:=by
  unfold slicePick BO Nb;exact eL size_toArray (eL List.toList_toArray (az (fun f=>filterMap f _) (funext fun i=>bD)))
 refine eL e ?_;unfold BO;exact eR r.len (r.pick _)
abbrev QS(C:Ctx)(F:Fm):Rl (AV×AV) Value:=fun Ω p v=>∃a vl vu,v=.ref a/\(Ω.h.IsSliceOf a vl vu .none/\dq C F.L Ω a)/\VR C Ω p.1 vl/\VR C Ω p.2 vu
theorem AW(c:cD C R)(x):Sm C F Ω (evalPart x F.env) (pH R x) (QV C):=by
 rcases x with _|x
 .exact .pure fun _ _=>.lf _ _ .none
 .exact c.ev F Ω x
theorem FJ(g:cD C R){lo:Option Expr}:Sm C F Ω (eval (.Slice lo hi none pos) F.env) (cv (pH R lo) fun l=>cv (pH R hi) fun u=>ret (l,u)) (QS C F):=fun cj w σ H=>.intro fun p e=>by
 refine eF (dk e) fun l B e1 e2=>(eF (dk e2) fun u D q r=>?_)
 clear e2;(injection r with k;subst k);refine wpAny_Slice ((AW g lo).go w H e1 fun t vl m i n=>(AW g hi).go .refl i q fun o vu f c j=>aL (cW.from (m.trans f) (cW.grown c (ah _) (fun _ _ e=>aP _ e) fun d=>?_)));exact kj _ vl vu ⟨rfl,⟨(Heap.IsSliceOf.new o.h vl vu .none),c.rel.uN (cK _ (ah _)) (bp _ rfl) rfl⟩,(n.mono f).mono d,j.mono d⟩
theorem De{z:bQ}(h:LR x v)(e:UQ .slice x y z=some r):Road Ω.s v:=by
 induction h with
 |str x t=>exact(dJ _ _ ⟨typeIs_str _ _ _,PySem.F.slot_str_getitem.lookup⟩)
 |_=>exact cX e
theorem rJ(e:iN y=some l):iN (C.cn y)=some l:=by
 induction y with
 |sym=>exact cX e
 |_=>exact e
theorem OF(G:Good C)(H:Hr C F Ω σ){p:AV×AV}(j:VR C Ω a v)(q:QS C F Ω p u):OP (RG C.K C.Φ a p σ) fun r=>wpAny C.M F.A (getItem v u) (cW C F Ω r.2 (QV C) r.1) no Ω.s/\Road Ω.s v:=by
 refine jQ q ?_;clear q;intro d vl vu c N m k;subst c;obtain⟨i,_⟩:=N;refine .SQ ((cI j).mono fun x f=>.opt ((cI m).mono fun y D=>.opt ((cI k).mono fun z g=>.map (.map (.intro fun r e=>⟨(fC (o:=.slice) (xs:=[x,y,z]) G H (GN H.rel.toks f D g i)).of e,(bW (ju G e) fun S e1 _=>(De f e1))⟩))))) ?_
 .refine .bind ((gW G H j).mono fun xs f=>.bind (.intro fun l e1=>.bind (.intro fun u e2=>.gd fun B=>.gd fun g=>⟨(cw (f.ex) fun t T c e r=>?_),f.road⟩)));subst c;refine bW (aM.mp e1) fun y n e1=>(bW (aM.mp e2) fun z J e2=>(bW ((oU ((cI m).of n)).of (rJ e1)) fun O c P=>?_))
  subst c;refine bW ((oU ((cI k).of J)).of (rJ e2)) fun E c w=>?_
  subst c;exact wpAny_getItem_list_slice e i (P▸EY O) (w▸EY E) .none (fun h=>cX h) (cW.list H (Fo r l u) (ag (ax g) (by decide))) (r.size▸cA (ax B))
theorem Fi(G:Good C)(g:cD C R){lo hi:Option Expr}:Sm C F Ω (eval (.Subscript o (.Slice lo hi none p) pos) F.env)
  (cv (R.ev o) fun a=>cv (cv (pH R lo) fun l=>cv (pH R hi) fun u=>ret (l,u)) fun q=>RG C.K C.Φ a q) (QV C):=
 .bind (g.ev F Ω o) fun cj _ a w j=>.bind (.holding (FJ g)) fun r k q B hb=>.dA (fun t c σ H=>(OF G H ((j.mono k).mono c) (by
  refine jQ hb fun d vl vu e i n m=>?_;obtain⟨⟨ob,e1,h⟩,S⟩:=i
  have f:=S.step c;exact(kj d vl vu ⟨e,⟨⟨ob,f.2 _ e1,h⟩,f.1⟩,n.mono c,m.mono c⟩))).mono fun _ h=>mf h.2 h.1)
end
end
section
open PySem.SeqAt
noncomputable def inOrder:List (AV->I Unit)->List AV->I Unit
 |[]=>fun _=>ret ()
 |g::gs=>fun xs=>match xs with
  |[]=>ret ()
  |x::xs=>cv (g x) fun _=>inOrder gs xs
def Wc(K:Frag)(σ:St)(a:AV):Option (List AV):=dg (xr K a) some (oB K σ a)
def GR(K:Frag)(n:Nat)(a:AV):I (List AV):=cv (rd fun σ=>Wc K σ a) fun xs=>gd (decide (xs.length=n)) (ret xs)
def Uu(K:Frag)(R:Rc)(ts:List Expr)(a:AV):I Unit:=gd (ts.all plainArg) (cv (GR K ts.length a) fun xs=>inOrder (ts.map R.asg) xs)
def YG(K:Frag)(ns:List Str)(a:AV):I Unit:=cv (GR K ns.length a) fun xs=>inOrder (ns.reverse.map fM) xs.reverse
noncomputable def QY(sc:Scope):Env:=newEnv sc 0 0 [] ⟨#[]⟩ none .none none 0
noncomputable def pureOf(m:Sem α):Option α:=match m with
 |.pure a=>some a
 |_=>none
def VI(R:Rc)(t x:Expr):I Fl:=gd (jl x&&plainArg t) (cv (R.ev x) fun a=>cv (R.asg t a) fun _=>ret Fl.next)
def oT(R:Rc)(t x:Expr):I Fl:=fun σ=>(pureOf (swappedStores [t] x (QY σ.sc))).bind fun a=>dg a (fun _=>eB) (VI R t x) σ
def vq(K:Frag)(R:Rc)(t x:Expr):I Fl:=fun σ=>(pureOf (swappedStores [t] x (QY σ.sc))).bind fun b=>dg b (fun ns=>gd (jl x) (cv (R.ev x) fun a=>cv (YG K ns a) fun _=>ret Fl.next)) (VI R t x) σ
section
variable{C:Ctx}{F:Fm}{L M:Nat}{Ω cb dX cj:Om}{σ τ:St}{v u z vl vu:Value}{a b:AV}{R:Rc}{pos:Pos}{h':Heap}{x y:bQ}{it:It}{A:Around}{s:Shared}{α:Type}
theorem vZ(h:F2 (fun g f=>∀Ω a v,VR C Ω a v->Sm C F Ω (f v) (g a) QU) gs d):∀ {Ω} {xs} {c},de C Ω xs c->Sm C F Ω (assignInOrder d c) (inOrder gs xs) QU:=by
 induction h with
 |nil=>exact fun _=>.pure fun _ _=>trivial
 |@cons g f gs d h _ k=>
  intro Ω xs c r;rcases xs with _|⟨x,xs⟩
  .obtain rfl:=r.nil_inv;exact .pure fun _ _=>trivial
  ·(refine cw (r.cons_inv) fun v us e j i=>?_;subst e);exact .bind (.holding (h Ω x v j)) fun cj w _ _ _=>k (i.mono w)
def Qk(C:Ctx)(F:Fm)(Ω:Om)(xs:List AV)(P:List Value->Shared->Prop):Prop:=∀c h',(∀b o,Ω.h.get? b=some o->h'.get? b=some o)->de C Ω xs c->P c (gy Ω.s h' Ω.s.toks)
theorem wB(c:Heap.ExtBut h.objs.size h h'):∀b o,h.get? b=some o->h'.get? b=some o:=fun b o e=>c b o (ne_of_lt (qk e)) e
theorem Cp(G:Good C)(H:Hr C F Ω σ)(c:VR C Ω a v):OP (Wc C.K σ a) fun xs=>∀P,Qk C F Ω xs P->wpAny C.M F.A (unpackItems v xs.length none) P no Ω.s:=by
 refine .oe ((kO G H c).mono fun xs h P k=>?_) ((gW G H c).mono fun xs h P k=>?_)
 .refine cw (h.ex) fun t g d e r=>?_;clear h G c;subst d
  exact eR r.size (unpackItems_tuple H.room.handled e fun h' f=>k g h' (wB f) r)
 .refine cw (h.ex) fun t g d e r=>?_;clear h G c;subst d
  exact eR r.size (kun_itemsOf H.room.handled e fun h' f=>k g h' (wB f) r)
theorem Az(G:Good C){n:Nat}(c:VR C Ω a v):Sm C F Ω (unpackItems v n none) (GR C.K n a) (Kn C):=fun cj w σ H=>.bind (.map ((Cp G H (c.mono w)).mono fun xs h=>.gd fun q=>ax q▸h _ fun d h' k r=>cW.grown H (ah _) k fun w=>r.mono w))
structure TR(C:Ctx)(F:Fm)(R:Rc)(ts:List Expr)(l:List (Bool×(Value->Sem Unit))):Prop where
 len:l.length=ts.length
 star:l.findIdx? (·.1)=none
 ok:F2 (fun g f=>∀Ω a v,VR C Ω a v->Sm C F Ω (f v) (g a) QU) (ts.map R.asg) (l.map (·.2))
theorem Bm(h:plainArg t=true):assignEach (t::r) env=(false,assign t env)::assignEach r env:=by
 rcases t with⟨⟩<;>first|rfl|exact(aA h).elim
theorem KC(d:cD C R):∀ {ts:List Expr},ts.all plainArg=true->TR C F R ts (assignEach ts F.env):=by
 intro ts;induction ts with
 |nil=>
  intro _;exact⟨rfl,rfl,.nil⟩
 |cons t r c=>
  intro h;rw [all_cons,aW] at h;refine eL (Bm h.1) ?_;have k:=c h.2;exact⟨az Nat.succ k.len,by refine eL findIdx?_cons (eL k.star ?_);rfl,.cons (fun Ω a v e=>d.asg F Ω t a v e) k.ok⟩
theorem BI(G:Good C)(d:cD C R){ts:List Expr}{c}(e:VR C Ω a v):Sm C F Ω (assign (.Tuple ts c pos) F.env v) (Uu C.K R ts a) QU:=.gd fun h=>by
 have k:=KC (F:=F) d h;refine eL (assign_Tuple ..) (.dA ?_);unfold unpack;exact eL k.len (eL k.star (.bind (.holding (Az G e)) fun cj _ xs f r=>vZ k.ok r))
theorem de.rev(r:de C Ω xs c):de C Ω xs.reverse c.reverse:=by
 induction xs generalizing c with
 |nil=>obtain rfl:=r.nil_inv;exact .nil
 |cons x xs f=>(refine cw (r.cons_inv) fun v us d e g=>?_;subst d);exact eL reverse_cons (eL reverse_cons ((f g).append (.cons e .nil)))
theorem Hk:∀ns:List Str,F2 (fun g f=>∀Ω a v,VR C Ω a v->Sm C F Ω (f v) (g a) QU) (ns.map fM) (ns.map fun n=>bindName F.env n):=by
 intro ns;induction ns with
 |nil=>
  exact .nil
 |cons n ns c=>
  exact .cons (fun _ _ _ d=>yY d) (c)
theorem wM(e:pureOf m=some r):m=.pure r:=by
 rcases m with⟨⟩<;>first|exact cX e|((injection e with c;subst c);rfl)
theorem sQ(H:Hr C F Ω σ){x:Expr}(e:pureOf (swappedStores [t] x (QY σ.sc))=some sw):swappedStores [t] x F.env=Pure.pure sw:=by
 have e:=wM e;rw [<-H.env.scope] at e;exact e
theorem Eb(c:cD C R){x:Expr}:Sm C F Ω (exec (.Assign [t] x pos) F.env) (oT R t x) (QF C):=fun cj w σ H=>.bind (.intro fun d e=>by
 rcases d with _|ns
 .exact rD c (sQ H e) cj w σ H
 .trivial)
theorem Lc(G:Good C)(i:cD C R){ts:List Expr}{c}{x:Expr}:Sm C F Ω (exec (.Assign [.Tuple ts c d] x pos) F.env) (vq C.K R (.Tuple ts c d) x) (QF C):=fun cj w σ H=>.bind (.intro fun E e=>by
 rcases E with _|ns
 .exact rD i (sQ H e) cj w σ H
 .refine .gd fun h=>.intro fun p e1=>(eF (dk e1) fun a V e2 f=>(eF (dk f) fun _ X g O=>(eF (dk g) fun xs SV l m=>?_)))
  clear g f e1 w;(injection O with J;subst J);exact Assign_Tuple_swapped ((i.ev F cj x).go .refl H e2 fun S v N o P=>(Az G P).go .refl o l fun T U D j r=>(vZ (Hk ns.reverse) r.rev).go .refl j m fun k _ B q _=>⟨k,(N.trans D).trans B,q,.next,rfl⟩) (qo (t:=some (.Tuple ts c d)) (n:=pos.line) (env:=F.env) h) (sQ H e))
end
end
section
open PySem.SeqAt PySem.Builtin PySem.Builtin.Str
noncomputable def NZ:List (String×Op):=[("len",.len),("ord",.ord),("chr",.chr),("str.lower",.lower)]
noncomputable def MX:List (String×Op):=[("str.count",.count),("str.rfind",.rfind)]
def yT(Φ:List Fact)(a b:AV)(σ:St):Option AV:=(iB a).bind fun x=>((fQ b).bind (listAt σ)).bind fun xs=>(ia xs).bind fun ys=>(kH Φ .join (x::ys)).map .lf
def Wn(K:Frag)(a:AV)(σ:St):Option AV:=dg ((fQ a).bind (dictAt σ)) (fun es=>some (.lf (.int es.length))) ((oB K σ a).map fun xs=>.lf (.int xs.length))
def UO(j:Nat):I AV:=fun σ=>(listAt σ j).bind fun xs=>(gd (decide (xs.length<=big)) (opt xs.getLast? fun v=>cv (upd j (.list xs.dropLast)) fun _=>ret v):I AV) σ
def VX(j:Nat):I AV:=fun σ=>dg (lF σ j) (fun p=>(gd (decide (p.1.length<=1000)&&decide (p.2.2.length<=1000))<|opt p.1.head? fun v=>cv (upd j (.fK p.1.tail p.2.1 p.2.2)) fun _=>ret v:I AV) σ)<|(listAt σ j).bind fun xs=>(gd (decide (xs.length<=big)) (opt xs.head? fun v=>cv (upd j (.list xs.tail)) fun _=>ret v):I AV) σ
section
variable{C:Ctx}{F:Fm}{L M:Nat}{Ω cb dX cj:Om}{σ τ:St}{v u z vl vu:Value}{a b:AV}{R:Rc}{pos:Pos}{h':Heap}{x y:bQ}{it:It}{A:Around}{s:Shared}{α:Type}{name:String}{o:Op}
theorem Gs(d:s.toks≠0)(c:LR x v):OP (zR .lower x) (Lw C.M A s (call (.builtin "str.lower") [v])):=by
 induction c with
 |str x t l _=>exact .bif fun q Z h=>SC.lower (bx (Nat.not_lt.mpr (cA (ax q)))) (h _ _ (aE _) (.str _ _ (cA (ax q)) d))
 |_=>trivial
theorem FW(d:s.toks≠0)(c:LR x v)(e:NZ.lookup name=some o):OP (ew o [x]) (Lw C.M A s (call (.builtin name) [v])):=by
 rcases dw e with⟨rfl,rfl⟩|e
 .exact Fj c
 rcases dw e with⟨rfl,rfl⟩|e
 .exact Ht c
 rcases dw e with⟨rfl,rfl⟩|e
 .exact Dk d c
 rcases dw e with⟨rfl,rfl⟩|e
 .exact Gs d c
 .exact (cX (e))
theorem ze(h:LR x v):OP (CC x) fun s=>∃t,v=.str s t:=by
 induction h with
 |str s t=>exact⟨t,rfl⟩
 |_=>trivial
theorem yP(h:LR x v):OP (lint x) fun i=>∃t,v=.int i t:=by
 induction h with
 |int i t=>exact⟨t,rfl⟩
 |_=>trivial
theorem tI(x y)(i j)(t u v c):Gives («str.count» ⟨[.str x t,.str y u,.int i v,.int j c],[]⟩) (.int (occurrences x y (fromIndex x.length i) (min (fromIndex x.length j) x.length) (x.length+1)).length):=.of_eq rfl
theorem ux(x y)(i j)(t u v c):Gives («str.rfind» ⟨[.str x t,.str y u,.int i v,.int j c],[]⟩) (.int (qC (lastOccurrence x y (fromIndex x.length i) (min (fromIndex x.length j) x.length)))):=by
 show Gives (match lastOccurrence x y (fromIndex x.length i) (min (fromIndex x.length j) x.length) with|some i=>retInt i|none=>(do rule "str.rfind.not-found";retInt (-1))) _;rcases lastOccurrence x y (fromIndex x.length i) (min (fromIndex x.length j) x.length) with _|k
 .exact .rule (.of_eq rfl)
 .exact .of_eq rfl
theorem Hn(d:LR x v)(g:LR y u)(hi:LR i q)(f:LR j p)(e:MX.lookup name=some o):OP (a9 o x y i j) (Lw C.M A s (call (.builtin name) [v,u,q,p])):=by
 refine .bind ((ze d).mono fun x d=>.bind ((ze g).mono fun y g=>.bind ((yP hi).mono fun i hi=>.bind ((yP f).mono fun j f=>(cN d ?_)))));clear d;intro m c;clear d;subst c;refine cN g ?_;clear g;intro k c;clear g;subst c;refine cN hi ?_;clear hi;intro n c;clear hi;subst c;refine cN f ?_;clear f;intro l c;clear f;subst c;rcases dw e with⟨rfl,rfl⟩|e
 .exact fun Z h=>call_gives F.slot_str_count (typeIs_str _ _ _) F.entry_str_count (F.args_str_count_4 _ _ _ _) (tI x y i j m k n l) (h _ _ (aE _) (.int _ _))
 rcases dw e with⟨rfl,rfl⟩|e
 .exact fun Z h=>call_gives F.slot_str_rfind (typeIs_str _ _ _) F.entry_str_rfind (F.args_str_rfind_4 _ _ _ _) (ux x y i j m k n l) (h _ _ (aE _) (.int _ _))
 .exact (cX (e))
theorem BW:∀ {xs} {c},de C Ω xs c->OP (ia xs) fun ys=>OP (strsOf (ys.map C.cn)) fun l=>∃ps,c=strValues ps/\ps.map (·.1)=l/\∀p∈ps,p.2≠0/\p.1.length<=sizeLine:=by
 intro xs;induction xs with
 |nil=>
  intro c r;obtain rfl:=r.nil_inv;exact⟨[],rfl,rfl,fun _ h=>iS h⟩
 |cons x xs j=>
  intro c r;refine cw (r.cons_inv) fun v us d i g=>?_
  subst d;refine .bind ((cI i).mono fun y f=>.map ((j g).mono fun ys h=>?_));show OP (strsOf (C.cn y::ys.map C.cn)) _;generalize C.cn y=y at f;induction f with
  |str s t l z=>
   refine .map (h.mono fun l' k=>(cS k ?_));clear k;intro ps d e q;subst d;exact⟨(s,t)::ps,rfl,eL map_cons (eL e rfl),fun p hp=>(aU.mp hp).elim (fun z=>z▸⟨‹_›,‹_›⟩) (q p)⟩
  |_=>trivial
theorem Kc(G:Good C)(H:Hr C F Ω σ)(i:VR C Ω a v)(hb:VR C Ω b u):OP (yT C.Φ a b σ) fun r=>wpAny C.M F.A (call (.builtin "str.join") [v,u]) (cW C F Ω σ (QV C) r) no Ω.s:=by
 refine .bind ((cI i).mono fun x n=>.bind (.bind ((dZ hb).mono fun j q=>.intro fun xs ho=>.bind (.intro fun ys e=>.map (fC G H (bY q ?_))))));clear q;intro d _;subst d;refine cw (H.list ho) fun N k B w _=>?_;have h:=(BW w).of e
 show OP (ZP (C.cn x::ys.map C.cn)) _;generalize C.cn x=x at n;induction n with
 |str sep t J D=>
  refine .bind (h.mono fun l g=>.bif fun m=>.bif fun c Z f=>(cS g ?_));clear g;intro ps d E hp;subst d;subst E;refine call_meets PySem.F.slot_str_join (typeIs_str _ _ _) PySem.F.entry_str_join (PySem.F.args_str_join_2 _ _) (meets_str_join_list sep t _ ps ((bM _).mp m)) ⟨⟨_,B,rfl,k,rfl⟩,?_⟩;have c:=cA (ax c);have made:(Made.str (glued sep (ps.map (·.1)))).post Z Ω.s:=⟨c,f _ _ (aE _) (.str _ _ c H.rel.toks)⟩;clear m J D h B w x ho e G H i hb;rcases ps with _|⟨p,_|⟨_,_⟩⟩
  .exact made
  .exact f _ _ (ah _) (.str _ _ c (hp p (.head _)).1)
  .exact made
 |_=>trivial
theorem QZ(G:Good C)(H:Hr C F Ω σ)(d:VR C Ω a v):OP (Wn C.K a σ) fun r=>wpAny C.M F.A (call (.builtin "len") [v]) (cW C F Ω σ (QV C) r) no Ω.s:=by
 refine .oe (.bind ((dZ d).mono fun j f=>.intro fun es e=>?_)) (.map ((gW G H d).mono fun xs h=>?_))
 .refine bY f ?_;clear f;intro c _;subst c;exact cS (H.dict e) fun m k g i=>(call_len_dict (H.qh G (eD e)) k (g.len▸Gq (ag i (by decide))) (g.len▸.now H (ag (aE _) (aE _)) (.lf _ _ (.int _ _))))
 .refine cw (h.ex) fun t l c e r=>?_;clear G d;subst c
  exact call_len_list e (r.size▸Gq h.len) (r.size▸.now H (ag (aE _) (aE _)) (.lf _ _ (.int _ _)))
theorem de.take(r:de C Ω xs c)(n):de C Ω (xs.take n) (c.take n):=⟨by exact eL bE (eL bE (eL r.len rfl)),fun i x v p q=>by
 rw [List.getElem?_take] at p q;by_cases h:i<n
 .rw [if_pos h] at p q;exact r.at_ i x v p q
 .rw [if_neg h] at p;exact cX p⟩
theorem Qm(i:VR C Ω (.obj j) v):Sm C F Ω (call (.builtin "list.pop") [v]) (UO j) (QV C):=fun cj w σ H=>.bind (.intro fun xs ho=>.gd fun q=>.opt (.intro fun y g=>by
 refine cw (H.list ho) fun f k e1 e2 h=>?_;obtain rfl:=(i.mono w).fQ
 have q:=ax q;refine bW (e2.get (eR List.getLast?_eq_getElem? g)) fun u d hr=>?_
 refine Copied.pop_at e1 (eL e2.size (eL bD d)) (fun h' c hd=>cW.upd H (gB ho) (.inl rfl) (ah _) c ⟨_,hd⟩ (fun cb w' e=>(dJ f.dropLast _ ⟨by exact eL e (eL (hd ..) (eL (List.pop_toArray ..) rfl)),?_,?_⟩)) fun w=>hr.mono w) (e2.size▸cA q)
 .exact eL List.dropLast_eq_take (eL List.dropLast_eq_take (eR e2.len ((e2.take _).mono w')))
 .exact eL List.length_dropLast (ag (sub_le _ _) h)))
theorem NS{a:Addr}(e1:s.heap.get? a=some (listOf (u::us).toArray k))(c:(u::us).length<=sizeLine)
  (h:∀h',Heap.SameBut a s.heap h'->h'.get? a=some (listOf us.toArray (k+1))->Z u (gy s h' s.toks)):wpAny C.M A (call (.builtin "list.pop") [.ref a,.int 0 t]) Z no s:=by
 exact call_meets PySem.F.slot_list_pop ⟨_,e1,rfl⟩ PySem.F.entry_list_pop (PySem.F.args_list_pop_2 _ _) (PySem.MeetsSeq.list_pop_at _ _ k 0 t 0 u (by decide) (by unfold seqIndex?;simp) (by simp) (by exact eL size_toArray c)) ⟨e1,(h _ (Heap.SameBut.update ..) (by refine eL (Heap.get?_update_self _ e1 rfl) ?_;simp [Obj.mapSeq]))⟩
theorem My{t:Tok}(r:VR C Ω (.obj j) v):Sm C F Ω (call (.builtin "list.pop") [v,.int 0 t]) (VX j) (QV C):=fun cj w σ H=>.dg (fun p ho=>.gd fun q=>.opt (.intro fun y c=>by
 obtain⟨xs,i,zs⟩:=p;refine cw (H.fK ho) fun n k e1 e2 m=>?_
 obtain rfl:=(r.mono w).fQ;have q:=ab.mp q;rcases xs with _|⟨B,ys⟩
 .exact cX c
 ·(injection c with h;subst h)
  refine cw ((e2:de C _ (_::(ys++_)) n).cons_inv) fun u us g f l=>?_;subst g
  exact NS e1 (e2.len▸cA (ag (yV (ax q.1) (ax q.2)) (by decide))) fun h' d hd=>cW.upd H (jv ho) (.inl rfl) (ah _) d ⟨_,hd⟩ (fun cb w' e=>(dJ us _ ⟨by exact eL e (eL (hd ..) rfl),l.mono w',ag (aE _) m⟩)) fun w=>f.mono w)) (.bind (.intro fun xs ho=>.gd fun q=>.opt (.intro fun y c=>by
 refine cw (H.list ho) fun n k e1 e2 m=>?_;obtain rfl:=(r.mono w).fQ
 rcases xs with _|⟨B,ys⟩
 .exact cX c
 ·(injection c with h;subst h)
  refine cw (e2.cons_inv) fun u us g f l=>?_;subst g
  exact NS e1 (e2.len▸cA (ax q)) fun h' d hd=>cW.upd H (gB ho) (.inl rfl) (ah _) d ⟨_,hd⟩ (fun cb w' e=>(dJ us _ ⟨by exact eL e (eL (hd ..) rfl),l.mono w',ag (aE _) m⟩)) fun w=>f.mono w)))
end
end
section
open PySem.SeqAt
noncomputable def Au(b:AV):Option String:=match b with
 |.top (.type n)=>some n
 |_=>none
def TU(a b:AV):Option AV:=(iB a).bind fun x=>(ff (some x)).bind fun _=>(Au b).bind fun n=>bif n=="bool" then some (.lf (.bool true)) else none
def WC(Φ:List Fact)(a b:AV):Option AV:=(iB a).bind fun x=>(kH Φ .len [x]).bind fun _=>(Au b).bind fun n=>bif n=="str" then some (.lf (.bool true)) else none
def Uo(a b:AV)(σ:St):Option AV:=(fQ a).bind fun j=>(dictAt σ j).bind fun _=>(Au b).bind fun n=>bif n=="str" then some (.lf (.bool false)) else none
def Dj(K:Frag)(Φ:List Fact)(n:String)(a:AV):I AV:=dg (iB a) (fun x=>opt (NZ.lookup n) fun o=>rd fun _=>(kH Φ o [x]).map .lf)
 (bif n=="len" then rd (Wn K a) else gd (n=="list.pop") (opt (fQ a) UO))
def En(Φ:List Fact)(n:String)(a b:AV):I AV:=
 bif n=="list.append" then opt (fQ a) fun j=>DM j b
 else bif n=="str.join" then rd (yT Φ a b)
 else bif n=="str.startswith" then rd fun _=>(iB a).bind fun x=>(iB b).bind fun y=>(kH Φ .starts [x,y]).map .lf
 else bif n=="isinstance" then rd fun σ=>dg (TU a b) some (dg (WC Φ a b) some (Uo a b σ))
 else gd (n=="list.pop") (opt (fQ a) fun j=>opt (ye b) fun i=>gd (decide (i=0)) (VX j))
def zo(Φ:List Fact)(n:String)(a b c d:AV):I AV:=opt (MX.lookup n) fun o=>rd fun _=>(iB a).bind fun x=>(iB b).bind fun y=>(iB c).bind fun z=>(iB d).bind fun u=>(kH Φ o [x,y,z,u]).map .lf
def blt(K:Frag)(Φ:List Fact)(n:String):List AV->I AV
 |[]=>eB
 |a::r=>match r with
  |[]=>Dj K Φ n a
  |b::r=>match r with
   |[]=>En Φ n a b
   |c::r=>match r with
    |[]=>eB
    |d::r=>gd r.isEmpty (zo Φ n a b c d)
section
variable{C:Ctx}{F:Fm}{L M:Nat}{Ω cb dX cj:Om}{σ τ:St}{v u z vl vu:Value}{a b c d:AV}{R:Rc}{pos:Pos}{h':Heap}{x y:bQ}{it:It}{A:Around}{s:Shared}{α:Type}{n:String}{o:Op}
def oi(C:Ctx)(F:Fm)(Ω:Om)(m:Sem Value)(p:AV×St):Prop:=wpAny C.M F.A m (cW C F Ω p.2 (QV C) p.1) no Ω.s
theorem Sm.Pb(h:Sm C F Ω m i (QV C))(H:Hr C F Ω σ):OP (i σ) (oi C F Ω m):=h Ω .refl σ H
theorem OP.sG{c:Bool}{j:I AV}(h:c=true->OP (i σ) P)(k:OP (j σ) P):OP ((bif c then i else j) σ) P:=by
 rcases c with⟨⟩
 .exact k
 .exact h rfl
theorem Qx(G:Good C)(H:Hr C F Ω σ)(g:VR C Ω a v):OP (Dj C.K C.Φ n a σ) (oi C F Ω (call (.builtin n) [v])):=
 .SQ ((cI g).mono fun x h=>.opt (.intro fun o e=>.map (.map (fC G H (FW H.rel.toks h e)))))
  (.sG (fun e=>by obtain rfl:=aC.mp e;exact .map (QZ G H g)) (.gd fun e=>by obtain rfl:=aC.mp e;exact .opt ((dZ g).mono fun j f=>by obtain⟨rfl,f⟩:=f;exact(Qm (.obj j f)).Pb H)))
theorem pV(hb:VR C Ω b u):OP (Au b) fun n=>u=.type n:=by
 induction hb with
 |top u=>
  cases u with
  |type n=>exact rfl
  |_=>trivial
 |_=>trivial
theorem Qe(H:Hr C F Ω σ)(f:VR C Ω a v)(hb:VR C Ω b u):OP (TU a b) fun r=>wpAny C.M F.A (call (.builtin "isinstance") [v,u]) (cW C F Ω σ (QV C) r) no Ω.s:=by
 refine .bind (.intro fun x e=>.bind (.intro fun t e2=>.bind ((pV hb).mono fun n g=>?_)));have q:=(cI f).of e;clear hb;subst g;clear e f;(injection (lG e2) with h;subst h);have q:=q.inv;clear e2;subst q;exact .bif fun q=>by obtain rfl:=aC.mp q;exact IsiPair.bool_bool (.fF H (.lf _ _ (.bool _)))
theorem Jd(G:Good C)(H:Hr C F Ω σ)(f:VR C Ω a v)(hb:VR C Ω b u):OP (WC C.Φ a b) fun r=>wpAny C.M F.A (call (.builtin "isinstance") [v,u]) (cW C F Ω σ (QV C) r) no Ω.s:=by
 refine .bind ((cI f).mono fun x e=>.bind (.intro fun r e2=>.bind ((pV hb).mono fun n g=>(bW (ju G e2) fun i e1 _=>(uc ((len_str e).of e1) fun s t h=>?_)))));clear e e1 e2 hb f G;subst g;subst h;exact .bif fun q=>by obtain rfl:=aC.mp q;exact IsiPair.str_str (.fF H (.lf _ _ (.bool _)))
theorem LC(H:Hr C F Ω σ)(f:VR C Ω a v)(hb:VR C Ω b u):OP (Uo a b σ) fun r=>wpAny C.M F.A (call (.builtin "isinstance") [v,u]) (cW C F Ω σ (QV C) r) no Ω.s:=by
 refine .bind ((dZ f).mono fun j k=>.bind (.intro fun es e=>.bind ((pV hb).mono fun n g=>(cS (H.dict e) fun p l t m=>(xT l fun o _ _ h i _=>?_)))));clear f hb;subst g;refine eL k.1 ?_;exact .bif fun q=>by obtain rfl:=aC.mp q;exact IsiPair.dict_str h i.1 (.now H (aE _) (.lf _ _ (.bool _)))
theorem two_wp(G:Good C)(H:Hr C F Ω σ)(g:VR C Ω a v)(hb:VR C Ω b u):OP (En C.Φ n a b σ) (oi C F Ω (call (.builtin n) [v,u])):=by
 refine .sG (fun e=>?_) (.sG (fun e=>?_) (.sG (fun e=>?_) (.sG (fun e=>?_) (.gd fun e=>?_))))<;>obtain rfl:=aC.mp e
 .exact .opt ((dZ g).mono fun j f=>by obtain⟨rfl,f⟩:=f;exact(xC (.obj j f) hb).Pb H)
 .exact .map (Kc G H g hb)
 .exact .map (.bind ((cI g).mono fun x k=>.bind ((cI hb).mono fun y l=>.map (fC G H (Bs k l)))))
 .exact .map (.oe ((Qe H g hb).mono fun _ h=>h) (.oe ((Jd G H g hb).mono fun _ h=>h) (LC H g hb)))
 .exact .opt ((dZ g).mono fun j f=>.opt ((kN hb).mono fun i hi=>.gd fun q=>by
   obtain⟨rfl,f⟩:=f;obtain⟨t,rfl⟩:=hi;cases ax q;exact(My (.obj j f)).Pb H))
theorem JU(G:Good C)(H:Hr C F Ω σ)(i:VR C Ω a v)(hb:VR C Ω b u)(l:VR C Ω c g)(hd:VR C Ω d k):OP (zo C.Φ n a b c d σ) (oi C F Ω (call (.builtin n) [v,u,g,k])):=
 .opt (.intro fun o e=>.map (.bind ((cI i).mono fun x m=>.bind ((cI hb).mono fun y p=>.bind ((cI l).mono fun z j=>.bind ((cI hd).mono fun t f=>.map (fC G H (by
  have h:=Hn (C:=C) (A:=F.A) (s:=Ω.s) m p j f e;rcases dw e with⟨_,rfl⟩|e
  .exact h
  rcases dw e with⟨_,rfl⟩|e
  .exact h
  .exact (cX (e))))))))))
theorem PK(G:Good C)(H:Hr C F Ω σ){e:List Value}(r:de C Ω args e):OP (blt C.K C.Φ n args σ) (oi C F Ω (call (.builtin n) e)):=by
 rcases args with _|⟨a,f⟩
 .trivial
 .obtain ⟨i,e,rfl,g,r⟩:=r.cons_inv;cases f with
  |nil=>cases r.nil_inv;exact Qx G H g
  |cons b f=>
   obtain⟨k,e,rfl,hb,r⟩:=r.cons_inv;cases f with
   |nil=>obtain rfl:=r.nil_inv;exact two_wp G H g hb
   |cons c f=>
    obtain⟨j,e,rfl,h,r⟩:=r.cons_inv;cases f with
    |nil=>trivial
    |cons d f=>
     obtain⟨l,e,rfl,hd,r⟩:=r.cons_inv;refine .gd fun q=>?_
     obtain rfl:=bj.mp q;obtain rfl:=r.nil_inv;exact JU G H g hb h hd
end
end
section
open PySem.SeqAt PySem.NumText
theorem wZ(e:GW m=some i):m=(int_private% "Numeral.value") i:=by
 induction m with
 |value j=>(injection e with a;subst a);rfl
 |_=>exact cX e
theorem Ab
  (b:(text.takeWhile (· !=0)).length<=640) (hr:(int_private% "readNumeral") 0 base (text.takeWhile (· !=0))=(int_private% "Numeral.value") n)
  (a:((text.takeWhile (· !=0)).length==text.length)=true) (h:Q (.int n s.toks) { s with toks:=s.toks+1 }):
  wpAny M A ((int_private% "intFromText") v text base) Q E s:=by
 obtain⟨hp,g,d,c,os⟩:=s
 repeat (any_goals (first
  |assumption
  |(with_reducible refine wpAny_ite_true (bo b) ?_)
  |(with_reducible refine wpAny_ite_true (bo a) ?_)
  |wp_step))
 all_goals (try rw [hr])
 all_goals (try dsimp only)
 repeat (any_goals (first
  |assumption
  |(with_reducible refine wpAny_ite_true (bo b) ?_)
  |(with_reducible refine wpAny_ite_true (bo a) ?_)
  |wp_step))
structure Ng(x:Str)(r n:Int):Prop where
 base:r=10\/r=16
 len:(numSeenOf x).length<=640
 val:(int_private% "readNumeral") 0 r.toNat (numSeenOf x)=(int_private% "Numeral.value") n
 all:((numSeenOf x).length==(numTextOf x).length)=true
theorem yh{r:Int}:OP (zj x r) fun n=>Ng x r n:=.bif fun q=>.intro fun n e=>by
 have q:=ab.mp q;have a:=ab.mp q.2;exact⟨ax q.1,ax a.1,wZ e,a.2⟩
theorem xK(a:Ng x r n):Gives (Builtin.«int.__new__» ⟨[.type "int",.str x u,.int r t],[]⟩) (.int n):=
 .of_wp fun M A E s Q h=>by
  obtain⟨hp,g,d,f,os⟩:=s;have i:=F.conv_sub_int;have c:=F.madeHere_int;have b:typeOf (.str x u)=pure (.type "str"):=rfl
  repeat (any_goals (first
    |assumption
    |((with_reducible show wpAny _ _ ((int_private% "intFromText") _ _ _) _ _ _);refine Ab a.len a.val a.all ?_)
    |wp_step))
  refine wpAny_ite_false (by rcases a.base with e|e<;>subst e<;>decide) ?_
  repeat (any_goals (first
    |assumption
    |((with_reducible show wpAny _ _ ((int_private% "intFromText") _ _ _) _ _ _);refine Ab a.len a.val a.all ?_)
    |wp_step))
  exact⟨_,rfl,h⟩
theorem BY(a b):checkTypeCall "int" ⟨[a,b],[]⟩=pure ():=by kernel_rfl
theorem Eh(a b):checkBuiltinCall "int.__new__" ⟨[.type "int",a,b],[]⟩=pure ():=by kernel_rfl
theorem CE(o a b):argsOk "object.__init__" ⟨[o,a,b],[]⟩:=by
 first|exact F.args_object_init_3 o a b|(kernel_rfl)
theorem BG{i:Int}(b:0<=i)(a:i<1000000):i.natAbs.log2<1920:=by
 by_cases z:i.natAbs=0
 .refine eL z ?_;decide
 .refine (Nat.log2_lt z).mpr (aS (ofNat_lt.mp (eL (Int.natAbs_of_nonneg b) (Int.lt_trans a (by decide))):i.natAbs<2^20) (Nat.pow_le_pow_right (by decide) (by decide)))
section
variable{C:Ctx}{a b c d:AV}{R:Rc}{pos:Pos}{h':Heap}{x y:bQ}{it:It}{A:Around}{s:Shared}{α:Type}{n:String}{o:Op}
theorem Qp(e:LR x v)(g:LR y u):OP (rC .toInt x y) (Lw C.M A s (call (.type "int") [v,u])):=
 eM (fun r v u=>OP r (Lw C.M A s (call (.type "int") [v,u]))) e g (fun _ _=>trivial) (fun _ _ _ _=>trivial) (fun _ _ _ _ _ _=>trivial) fun a t k i=>
  .map (yh.mono fun n f Z h=>callType_new F.called_int F.newNe_int (BY _ _) (Eh _ _) (fun obj=>CE obj _ _) F.entry_int_new (xK f).meets (show(Made.int n).post _ s from⟨rfl,h _ _ (aE _) (.int _ _)⟩))
theorem SE(f:s.toks≠0)(e:LR x v):OP (zR .Zw x) (Lw C.M A s (call (.type "str") [v])):=by
 induction e with
 |int i t=>exact .bif fun q=>.bif fun z Z h=>P.str_of_int (BG (ax (ab.mp q).1) (ax (ab.mp q).2)) (h _ _ (aE _) (.str _ _ (cA (ax z)) f))
 |_=>trivial
end
end
section
open PySem.SeqAt
noncomputable def down:Nat->Option Nat
 |0=>none
 |d+1=>some d
def GB(K:Frag)(c:Addr):Option Addr:=(findIn K (.ref c) "__init__").bind fun f=>f.bind fun v=>(refOf v).bind fun f=>bif isFn K (.ref f) then some f else none
def Nj(K:Frag)(fL:Bd)(d:Nat)(c f:Addr)(args:List AV)(a:List (Str×AV)):I AV:=fun σ=>
 (jd K fL d f (.obj σ.obj.length::args) a { σ with obj:=σ.obj++[.inst c []] }).bind fun p=>bif ui p.1 then some (.obj σ.obj.length,p.2) else none
abbrev NI:=String->List AV->I AV
def Wd(K:Frag)(Φ:List Fact)(fL:Bd)(c:NI)(v:Value)(args:List AV)(b:List (Str×AV)):I AV:=match v with
 |.ref a=>fun σ=>(down σ.dep).bind fun d=>bif makesIn K a then(down d).bind fun d=>(GB K a).bind fun f=>Nj K fL d a f args b σ else jd K fL d a args b σ
 |.builtin n=>gd b.isEmpty (blt K Φ n args)
 |.type n=>gd b.isEmpty (c n args)
 |_=>eB
def Ny(K:Frag)(Φ:List Fact)(fL:Bd)(b:NI)(f:AV)(args:List AV)(a:List (Str×AV)):I AV:=match f with
 |.cv g self=>fun σ=>(down σ.dep).bind fun d=>jd K fL d g (self::args) a σ
 |.top v=>Wd K Φ fL b v args a
 |_=>eB
def Fn(C:Ctx)(b:NI):Prop:=∀F Ω σ n args a,Hr C F Ω σ->de C Ω args a->OP (b n args σ) (oi C F Ω (call (.type n) a))
section
variable{C:Ctx}{F:Fm}{L M:Nat}{Ω cb dX cj:Om}{σ τ:St}{v u z vl vu:Value}{a b c:AV}{R:Rc}{pos:Pos}{h':Heap}{x y:bQ}{it:It}{A:Around}{s:Shared}{α:Type}{n:String}{o:Op}{d:Nat}{K:Frag}{fL:Bd}{ty:NI}
theorem oL.c0(r:oL A d):jL A d:=⟨r.depth,ag r.units (by decide),r.handled⟩
theorem nR(e:down m=some d):m=d+1:=by
 rcases m with _|m
 .exact cX e
 ·(injection e with f;subst f);rfl
theorem zu(e:jd K fL d f args kw σ=some r):fnIn K f=true:=by
 cases q:fnIn K f with
 |true=>rfl
 |false=>
 unfold jd at e;rw [q,Bool.and_false] at e;refine bW (aM.mp (e:((fnAt K f).bind _)=some r)) fun p e1 _=>(eR q (bW ((pe f).of e1).1 fun o ho hd=>?_))
 unfold fnIn;refine eL ho ?_;clear ho e1 e;obtain⟨c,g,h,sl⟩:=o;obtain rfl:=hd;rfl
theorem Kj(e:fnIn K f=true):keepIn K (.ref f)=true:=by
 revert e;unfold fnIn keepIn;dsimp only;rcases K.lookup f with _|⟨c,d,data,sl⟩
 .exact fun e=>jD e
 .induction data with
  |func=>exact fun _=>rfl
  |_=>exact fun e=>jD e
theorem ES{c:Addr}(e:makesIn K c=true):keepIn K (.ref c)=true:=by
 revert e;unfold makesIn keepIn;dsimp only;rcases K.lookup c with _|⟨c,d,data,sl⟩
 .exact fun e=>jD e
 .induction data with
  |cls cd=>exact fun e=>(ab.mp (ab.mp e).1).2
  |_=>exact fun e=>jD e
theorem mi{Q:Value->Shared->Prop}(h:codeAny C.M A (.call m ⟨ps,kw⟩) (Back Q) s):wpAny C.M A (call m ps kw) Q no s:=
 wpAny_call (codeAny_mono h fun r s' z=>by rcases r with e|(v|_|_|_)<;>exact z)
theorem oN(c)(e)(kw):(Code.builtin "type.__call__" ⟨.ref c::e,kw⟩).weight=1/\(Code.builtin "type.__call__" ⟨.ref c::e,kw⟩).cUnits=1:=⟨by kernel_rfl,by kernel_rfl⟩
theorem jL.under(r:jL A (d+2))(c)(e)(kw):jL (A.under (.builtin "type.__call__" ⟨.ref c::e,kw⟩)) (d+1):=by
 exact bY (oN c e kw) fun a b=>⟨by have:=r.depth;exact dN 0x10FEBDB3B8CDC91AC206F924FEBDB3B8CDCA1A0 tt this a,by have:=r.units;exact dN 0x10FCB3B3BACDC91EB9C206F924FCB3B3BACDCA1EB90 tt this b,r.handled⟩
theorem Gk(H:Hr C F Ω σ)(c):cW C F Ω { σ with obj:=σ.obj++[.inst c []] } (QV C) (.obj σ.obj.length) (.ref (Ω.h.objs.size+1)) (gy Ω.s ((Ω.h.push emptyDict).push (instObj c Ω.h.objs.size)) Ω.s.toks):=by
 have gd:((Ω.h.push emptyDict).push (instObj c Ω.h.objs.size)).get? Ω.h.objs.size=some emptyDict:=aP _ (bp _ rfl);have f:=tR Ω.h emptyDict▸bp (Ω.h.push emptyDict) (o:=instObj c Ω.h.objs.size) rfl;exact .new H (ah _) (fun _ _ e=>aP _ (aP _ e)) (cK _ (aE _)) (cK _ (ah _)) ⟨_,f⟩ ⟨_,gd⟩
  (fun cb _ e=>⟨succ_ne_self _,e▸f,[],0,e▸gd,.nil,zero_le _⟩) fun _ _ q=>q
theorem Cs{c:Addr}:OP (GB K c) fun f=>findIn K (.ref c) "__init__"=some (some (.ref f))/\isFn K (.ref f)=true:=.bind (.intro fun f e=>.bind (.intro fun v e2=>.bind (.intro fun h g=>.bif fun q=>by
 exact⟨e.trans (e2▸qQ g▸rfl),q⟩)))
theorem Cx(G:Good C)(t:Bf C fL)(H:Hr C F Ω σ)(hr:jL F.A (d+2)){c:Addr}{ns:List Str}(m:makesIn C.K c=true)(hi:findIn C.K (.ref c) "__init__"=some (some (.ref f)))(E:isFn C.K (.ref f)=true)
  (D:de C Ω args j) (N:de C Ω ks g):OP (Nj C.K fL d c f args (ns.zip ks) σ) fun p=>codeAny C.M F.A (.call (.ref c) ⟨j,ns.zip g⟩) (Back (cW C F Ω p.2 (QV C) p.1)) Ω.s:=by
 refine .bind (.intro fun p e=>.bif fun k=>?_);have X:C.K.In Ω.h:=fun a o e=>H.keep _ _ (G.lI _ _ e)
 refine dW (Gk H c) fun cb w H' q es=>?_;have run:=(nQ G t H' (hr.under c j (ns.zip g)) (.cons q (D.mono w)) (N.mono w)).of e
 rw [es] at run;refine make_core (makes_of X m) (looks_findIn X hi) (fun self=>bind_fn X self (aC.mp E)) (.inl rfl) (codeAny_mono run fun r s' z=>?_);rcases r with e|(v|_|_|_)<;>first|exact z.elim|skip
 exact dW z fun J i l B e2=>⟨qB B k,J,w.trans i,l,q.mono i,e2⟩
theorem Ej(G:Good C)(l:Bf C fL)(hT:Fn C ty)(H:Hr C F Ω σ){args ks:List AV}{j:List Value}{ns:List Str}(g:de C Ω args j)(i:de C Ω ks q):
  OP (Wd C.K C.Φ fL ty v args (ns.zip ks) σ) fun p=>oi C F Ω (call v j (ns.zip q)) p/\wc v Ω.h:=by
 have X:C.K.In Ω.h:=fun a o e=>H.keep _ _ (G.lI _ _ e)
 induction v with
 |ref a=>
  refine .bind (.intro fun d e=>?_);have hr:=nR e▸H.room.c0;clear e hT;rcases hm:makesIn C.K a with _|_
  .exact .intro fun p e2=>⟨mi ((nQ G l H hr g i).of e2),fun M=>keeps_K (Kj (zu e2)) _ X⟩
  .refine .bind (.intro fun t r=>.bind (Cs.mono fun f m=>?_));obtain rfl:=nR r;exact(Cx G l H hr hm m.1 m.2 g i).mono fun p h=>⟨mi h,fun M=>keeps_K (ES hm) _ X⟩
 |builtin n=>exact .gd fun h=>by exact eL (tC i h) ((PK G H g).mono fun p k=>⟨k,fun M=>⟨.machine,.inr (.inl rfl),Looks.of_pure rfl⟩⟩)
 |type n=>exact .gd fun h=>by exact eL (tC i h) ((hT F Ω σ n args j H g).mono fun p k=>⟨k,fun M=>⟨.machine,.inr (.inl rfl),Looks.of_pure rfl⟩⟩)
 |_=>trivial
theorem JB(G:Good C)(i:Bf C fL)(hT:Fn C ty):ue C (Ny C.K C.Φ fL ty):=fun F Ω σ f args ns ks r t m H l j k=>by
 induction l with
 |cv g a x v e q=>
  refine .bind (.intro fun d e1=>.intro fun p e2=>⟨mi (method_call e ((nQ G i H (nR e1▸H.room.c0) (.cons q j) k).of e2)),fun M=>keeps_M (zu e2) _ (⟨e,fun a o e=>H.keep _ _ (G.lI _ _ e)⟩:MethP C.K a _ v Ω.h)⟩)
 |top v=>exact Ej G i hT H j k
 |_=>trivial
end
end
section
open PySem.SeqAt PySem.Builtin PySem.Builtin.Str
def qt(c:Const):Option Str:=match c with
 |.str s=>bif decide (s.length<=big) then some s else none
 |_=>none
def litE(e:Expr):Option Str:=match e with
 |.Constant c _ _=>qt c
 |_=>none
def GF(R:Rc)(b:Expr):I Str:=match b with
 |.Constant c _ _=>opt (qt c) ret
 |_=>eB
abbrev Xz(n:Nat)(x:Str)(v:Value):Prop:=∃t,v=.str x t/\n<=t/\x.length<=sizeLine
noncomputable abbrev QT(n:Nat):Rl Str Value:=fun _ x v=>Xz n x v
def Oz(Φ:List Fact)(R:Rc)(o a b:Expr):I AV:=opt (litE a) fun y=>cv (R.ev o) fun c=>cv (GF R b) fun z=>rd fun _=>(iB c).bind fun x=>(kH Φ .qp [x,.str y,.str z]).map .lf
section
variable{C:Ctx}{F:Fm}{Ω cj:Om}{σ τ:St}{R:Rc}{pos:Pos}{n:Nat}{A:Around}{s:Shared}
theorem lB(e:qt c=some x):c=.str x/\x.length<=sizeLine:=by
 induction c with
 |str s=>(refine bY (pW e) fun h a=>?_;subst a);exact⟨rfl,cA (ax h)⟩
 |_=>exact cX e
theorem BC(h:litE e=some x):∃k p,e=.Constant (.str x) k p/\x.length<=sizeLine:=by
 cases e with
 |Constant c k p=>(refine bY (lB h) fun a l=>?_;subst a);exact(dJ k p ⟨rfl,l⟩)
 |_=>exact cX h
theorem PJ(l:x.length<=sizeLine)(a:n<=Ω.s.toks):Sm C F Ω (eval (.Constant (.str x) k pos) F.env) (ret x) (QT n):=fun cj w σ H=>Calls.Constant_str (cW.now H (aE _) ⟨_,rfl,ag a w.sm.toks,l⟩)
theorem IG(e:cD C R){b:Expr}(d:n<=Ω.s.toks):Sm C F Ω (eval b F.env) (GF R b) (QT n):=by
 cases b with
 |Constant c k p=>exact .opt fun x h=>by(refine bY (lB h) fun a l=>?_;subst a);exact PJ l d
 |_=>exact .none
theorem Lv(g:s.toks≠0)(p:LR x v)(i:u≠0)(j:t≠0)(f:u≠t)(l:NoneBooked s.heap):OP (UQ .qp x (.str a) (.str b)) (Lw C.M A s (call (.builtin "str.replace") [v,.str a u,.str b t])):=by
 induction p with
 |str x tx m k=>
  refine .bif fun c=>.bif fun d Z h=>?_;have c:=ab.mp c
  have d:=cA (ax d);have la:=ax c.1;refine call_givesAt F.slot_str_replace (typeIs_str _ _ _) F.entry_str_replace (F.args_str_replace_3 _ _ _) (gives_str_replace2 x a b tx u t fun _=>⟨by simp [i,j],by simp [f],(bM _).mp c.2⟩) l ?_;have whole:so x a b=x->Z (.str x tx) s:=fun e=>h _ _ (ah _) (eL e (.str x tx m k))
  have made:(Made.str (so x a b)).post Z s:=⟨d,h _ _ (aE _) (.str _ _ d g)⟩;rcases c:((occurrences x a 0 x.length (x.length+1)).isEmpty||(a.length==0&&b.length==0)) with _|_
  .refine eL (if_neg aA) ?_;clear la d c h m k g i j f l;cases o:(a==b) with
   |false=>exact eL (if_neg aA) made
   |true=>refine eL (if_pos rfl) ?_;obtain rfl:=eq_of_beq o;exact⟨whole (StrLaws.glued_between_self x a _),made⟩
  .refine eL (if_pos rfl) (whole ?_);unfold so;refine eL (by simpa [(bC la)] using c:occurrences x a 0 x.length (x.length+1)=[]) (eL (StrLaws.partsBetween_eq ..) ?_);show(⟨(strSub x 0 x.length).cps⟩)=x;exact eL (StrLaws.sub_whole ..) rfl
 |_=>trivial
theorem GX{x y z r:bQ}{v:Value}(a:LR x v)(e:UQ .qp x y z=some r):∃s t,v=.str s t/\t≠0:=by
 induction a with
 |str s t _ z=>exact(dJ s t ⟨rfl,z⟩)
 |_=>exact cX e
theorem qq(e:GF R b σ=some r):plainArg b=true:=by
 cases b with
 |Starred=>exact cX e
 |_=>rfl
theorem JR(G:Good C)(H:Hr C F Ω σ):NoneBooked Ω.h:=by
 exact bW (G.nb) fun e a b=>(lQ a fun d es f c rc=>⟨e,⟨d,es,f,H.keep _ _ c,rc⟩,b⟩)
theorem Kw(G:Good C)(j:cD C R){o a b:Expr}{apos:Pos}:Sm C F Ω (eval (.Call (.Attribute o "replace" apos) [a,b] [] pos) F.env) (gd (baseOk o&&(apos.endLine==pos.line)) (Oz C.Φ R o a b)) (QV C):=fun cj w σ H=>.gd fun c=>.intro fun p e=>by
 have c:=ab.mp c;refine bW (qP e) fun y B S=>(eF (BC B) fun k p' d ly=>?_)
 subst d;refine eF (dk S) fun ov fi e1 e2=>(eF (dk e2) fun z lV f e4=>(bW (aQ.mp e4) fun r U e6=>?_))
 subst e6;refine bW (aM.mp U) fun x D V=>(bW (aQ.mp V) fun r' u d=>?_)
 subst d;have pl:([.Constant (.str y) k p',b]:List Expr).all plainArg=true:=by show(true&&(plainArg b&&true))=true;refine eL (qq f) ?_;rfl
 refine fq (ib (env:=F.env) (pos:=pos) pl) fun N s2 s3=>(fq (iy (env:=F.env) (pos:=pos) (l:=[]) rfl) fun n1 L T=>(cS (ju G u) fun r2 Z q6 _=>(eL (arm_eval_Call ..) (eL (uD c.1) (ai ((j.ev F cj o).go .refl H e1 fun m vo w2 g J=>ai (wpAny_standAt ?_)))))))
 have E:=(cI J).of D;refine eF (GX E Z) fun xs tx y9 _=>?_
 unfold methodCall;refine eL (Fp (n:=2) pl rfl (by decide)) (ai (bK ?_));clear J n1 s2 pl u D V U e4 e1 e2 ly B S w H;subst y9;unfold calleeOf;simp only [if_true]
 with_reducible refine GM.replace ?_
 dsimp only;refine ai ?_;unfold methodCallPos;refine wpAny_ite_true (by refine eL c.2 ?_;rfl) (aL ?_);refine eL s3 (callWith_of (P:=wc (.builtin "str.replace")) (by refine eL N (eL T ?_);rfl) (fun h q=>q _) ?_);refine eL (dR rfl) (eL (dR (qq f)) (evalArgs_kw L (spliced_cons (Calls.Constant_str (spliced_cons ((IG j (ah _)).go .refl (⟨g.rel.grown (aE _) fun _ _ e=>e,g.room,g.env⟩:Hr C F (m.mv m.h (m.s.toks+1)) fi) f fun vn vb w4 i O=>spliced_nil (aL ⟨fun M=>⟨.machine,.inr (.inl rfl),Looks.of_pure rfl⟩,(cS O ?_)⟩:wpAny _ _ (Pure.pure []) _ _ _)))))));clear O;intro tb d X _;clear L T N s3 f c j;subst d;exact((Lv i.rel.toks E (g.rel.toks) (bC (aS (succ_pos _) X)) (ne_of_lt X) (JR G i)).of Z) _ fun v t ht q=>(cW.now i ht (.lf _ _ (q6 v q))).from ((w2.trans (W.grown (aE _) fun _ _ e=>e)).trans w4)
end
end
section
open PySem.SeqAt
noncomputable def OW(n:Nat):List Nat:=sliceRange (sliceBounds none none (some (-1)) n).1 (sliceBounds none none (some (-1)) n).2.1 (sliceBounds none none (some (-1)) n).2.2
def oK(xs:List α):List α:=(OW xs.length).filterMap (xs[·]?)
def Pn(K:Frag)(Φ:List Fact)(a s:AV):I AV:=opt (ye s) fun k=>gd (decide (k = -1)) (dg (iB a) (fun x=>rd fun _=>(kH Φ .rev [x]).map .lf) fun σ=>(oB K σ a).bind fun xs=>gN xs.length (gN (oK xs).length (new (.list (oK xs)))) σ)
noncomputable def Nw(sc:Scope)(x:Str)(a pos:Pos)(names:List (Str×NameKind)):Bool:=(sc.kind==.function)&&((sc.names.lookup x==some .local)&&((a.line==pos.line)&&!(names.any fun p=>p.1==x&&(p.2==.local||p.2==.cell))))
def vP(K:Frag)(R:Rc)(x:Str)(b pos:Pos)(elt:Expr)(y:Str)(py:Pos)(e:Expr)(sc:Scope):I Fl:=fun σ=>(gd (Nw σ.sc x b pos sc.names&&(sO sc&&fE e)) (cv (cv (R.ev e) fun x=>cv (rd (qd K x)) fun it=>Ww R elt (.Name y py) sc it) fun a=>cv (fM x a) fun _=>ret Fl.next):I Fl) σ
section
variable{C:Ctx}{F:Fm}{L M:Nat}{Ω cb dX cj:Om}{σ τ:St}{v u z vl vu:Value}{a b:AV}{R:Rc}{pos:Pos}{h':Heap}{x y:bQ}{it:It}{A:Around}{s:Shared}
theorem Qv(f:s.toks≠0)(e:LR x v){a:Addr}(g:s.heap.IsSliceOf a .none .none (.int (-1) t)):OP (zR .rev x) (Lw C.M A s (getItem v (.ref a))):=by
 induction e with
 |str x j k i=>
  refine .bif fun d Z h=>wpAny_getItem_str_slice (l:=none) (u:=none) (st:=some (-1,t)) (by refine cS g fun o a b c=>?_;exact⟨o,a,b,c⟩) rfl ?_
  exact⟨cA (ax d),h _ _ (aE _) (.str _ _ (cA (ax d)) f)⟩
 |_=>trivial
theorem Dv(r:de C Ω xs c):de C Ω (oK xs) (slicePick c.toArray none none (some (-1))).toList:=by
 have e:(slicePick c.toArray none none (some (-1))).toList=oK c:=by
  unfold slicePick oK OW;exact eL size_toArray (eL List.toList_toArray (az (fun f=>filterMap f _) (funext fun i=>bD)))
 refine eL e ?_;unfold oK;exact eR r.len (r.pick _)
abbrev a6(C:Ctx)(F:Fm):Rl AV Value:=fun Ω p v=>∃a c,v=.ref a/\(Ω.h.IsSliceOf a .none .none c/\dq C F.L Ω a)/\VR C Ω p c
theorem Ce(j:cD C R){st:Expr}:Sm C F Ω (eval (.Slice none none (some st) pos) F.env) (R.ev st) (a6 C F):=fun cj w σ H=>.intro fun p e=>by
 refine wpAny_Slice (aL (aL ((j.ev F cj st).go .refl H e fun f d g c k=>cW.from g (cW.grown c (ah _) (fun _ _ e=>aP _ e) fun i=>?_))));exact dJ _ d ⟨rfl,⟨Heap.IsSliceOf.new f.h .none .none d,c.rel.uN (cK _ (ah _)) (bp _ rfl) rfl⟩,k.mono i⟩
theorem RN(G:Good C)(H:Hr C F Ω σ)(i:VR C Ω a v)(q:a6 C F Ω p u):OP (Pn C.K C.Φ a p σ) fun r=>wpAny C.M F.A (getItem v u) (cW C F Ω r.2 (QV C) r.1) no Ω.s/\Road Ω.s v:=by
 refine cw q ?_;clear q;intro d D f E m;subst f;obtain⟨g,_⟩:=E;refine .opt ((kN m).mono fun k l=>.gd fun j=>(cN l ?_));clear l;intro t f;subst f;obtain rfl:=ax j;refine .SQ ((cI i).mono fun x c=>.map (.map (.intro fun r e=>⟨(fC (o:=.rev) (xs:=[x]) G H (Qv H.rel.toks c g)).of e,?_⟩))) (.bind ((gW G H i).mono fun xs c=>.gd fun B=>.gd fun w=>⟨?_,c.road⟩))
 .refine bW (ju G e) fun n e1 _=>?_;have e1:zR .rev (C.cn x)=some n:=e1
  generalize C.cn x=y at c e1;clear e j g m G H i;induction c with
  |str x t=>exact(dJ _ _ ⟨typeIs_str _ _ _,PySem.F.slot_str_getitem.lookup⟩)
  |_=>exact cX e1
 .refine cw (c.ex) fun t D f e r=>?_;subst f
  exact wpAny_getItem_list_slice e g .none .none (.int _ _) (fun h=>nomatch h) (cW.list H (Dv r) (ag (ax w) (by decide))) (r.size▸cA (ax B))
theorem Rw(G:Good C)(g:cD C R){st:Expr}{p:Pos}:Sm C F Ω (eval (.Subscript o (.Slice none none (some st) p) pos) F.env) (cv (R.ev o) fun a=>cv (R.ev st) fun s=>Pn C.K C.Φ a s) (QV C):=
 .bind (g.ev F Ω o) fun cj _ a l j=>.bind (.holding (Ce g)) fun t k q n hb=>.dA (show Sm _ _ _ (subscriptTail o (.Slice none none (some st) p) l n) _ _ from fun w c σ H=>(RN G H ((j.mono k).mono c) (by
  refine cw hb fun d m e i r=>?_;obtain⟨⟨ob,e1,h⟩,S⟩:=i
  have f:=S.step c;exact(dJ d m ⟨e,⟨⟨ob,f.2 _ e1,h⟩,f.1⟩,r.mono c⟩))).mono fun _ h=>mf h.2 h.1)
theorem CH{x:Str}(H:Hr C F Ω σ)(h:Nw σ.sc x f pos sc.names=true):swapsWith (.ListComp elt gs sc pos) (some (.Name x f)) line F.env=Pure.pure true:=by
 have c:=H.env.kind;rw [<-H.env.scope] at h c;have hb:F.env.blockKind=.function:=by unfold Env.blockKind;refine eL c ?_;rfl
 have e:=ab.mp (ab.mp h).2;have d:=ab.mp e.2;show(Pure.pure (F.env.blockKind==.function&&F.env.kindOf x==some .local&&f.line==pos.line&&!(sc.names.any fun p=>p.1==x&&(p.2==.local||p.2==.cell))):Sem Bool)=_;refine eL hb (eL (e.1) (eL d.1 (eL d.2 ?_)));rfl
theorem xZ(G:Good C)(T:cD C R){e:Expr}{y x:Str}:Sm C F Ω (exec (.Assign [.Name x px] (.ListComp elt [⟨.Name y py,e,[],0⟩] sc pos) ps) F.env) (vP C.K R x px pos elt y py e sc) (QF C):=fun cj w σ H=>.gd fun d=>.intro fun p B=>by
 have l:=ab.mp d;have d:=ab.mp l.2;have Y:=rO d.1;refine eF (dk B) fun a Xd e1 P=>(eF (dk P) fun _ H6 ec eb=>?_)
 clear P w B;cases eb;refine eF (dk e1) fun x' J e2 E=>(eF (dk E) fun it lV S D=>(bW (aQ.mp S) fun _ e6 e7=>?_))
 clear S E e1;(injection e7 with i g;subst i;subst g);refine bW (aQ.mp D) fun q e8 Z=>?_
 clear D;(injection Z with i g;subst i;subst g);refine eL (exec_Assign_Name_used _ _ _ _ (CH H l.1)) (ai (wpAny_standAt (ai (ai (bu (wpAny_comprehension_use rfl (iA d.2) Y.free Y.kind Y.loc (wp_mono ((T.ev F cj e cj .refl σ H).of e2) fun v s' z=>?_)) (fun _ s' hq=>aL (aL hq)) fun _ _ e=>e)))));refine dW z fun dt w2 c hv V=>?_;subst V
 refine(td G c hv).of e6 _ fun o fr hr=>wpAny_newObj_type (wpAny_newFunctionEnv Y.cell (fun _ h=>iS h) (fun h4 U Iy=>?_) Y.kind)
 have f:∀(h:Heap) o,∀b o',h.get? b=some o'->(h.push o).get? b=some o':=fun _ _ _ _ e=>aP _ e
 have O:=tR (dt.h.push o) { cls:=.type "list",dict:=none,data:=.seq ([]).toArray };have r:=fun b o' e=>Iy.extBut b o' (ne_of_lt (qk e)) (f _ _ b o' e)
 refine rF c (ah _) (ah _) (cK _ (ah _)) (cK _ (ah _)) (cK _ (O▸aE _)) (by exact eL O (succ_ne_self _)) (f _ _) (fun b o' e=>r b o' (f _ _ b o' e)) hr (r _ _ (bp _ rfl)) U ⟨rfl,Y.kind,rfl,c.env.gl,c.env.bl⟩ (Bl T e8) fun cb j w' k q'=>?_;refine bW k.fr fun m X _=>(bY (c.rel.leave j w' k J.sc J.dep) fun w3 r3=>((lY q').go .refl ⟨r3,c.room,c.env⟩ ec fun vn _ N H4 _=>?_))
 have t:=(ot c.rel j k).step N;refine⟨m,X.at' t.2,fun h' n=>.in (w2.trans ((w3.trans N).fJ j (ah _) n.extBut)) (H4.fJ t.1 (ah _) n.extBut) .next⟩
end
end
section
open PySem.SeqAt
def Up(Φ:List Fact)(R:Rc)(op:UnaryOp)(x:Expr):I AV:=match op with
 |.USub=>cv (R.ev x) fun a=>rd fun _=>TH Φ a
 |.Not=>cv (R.ev x) fun a=>cv (rd fun σ=>iO Φ σ a) fun t=>ret (.lf (.bool !t))
 |_=>eB
def Nd(K:Frag)(Φ:List Fact)(R:Rc)(o i:Expr):I AV:=match i with
 |.Slice lo hi st _=>match st with
  |none=>cv (R.ev o) fun a=>cv (cv (pH R lo) fun l=>cv (pH R hi) fun u=>ret (l,u)) fun q=>RG K Φ a q
  |some st=>match lo with
   |none=>match hi with
    |none=>cv (R.ev o) fun a=>cv (R.ev st) fun s=>Pn K Φ a s
    |some _=>eB
   |some _=>eB
 |i=>cv (R.ev o) fun a=>cv (R.ev i) fun b=>rd (FP K Φ a b)
def zp(K:Frag)(Φ:List Fact)(D:iM)(R:Rc)(l:Expr)(ops:List CmpOp)(rs:List Expr){β:Type}(fin:I Bool->I β)(f:β):I β:=match ops with
 |[]=>eB
 |op::ops=>match rs with
  |[]=>eB
  |r::rs=>match ops with
   |[]=>gd rs.isEmpty (HI K Φ D R fin l op r)
   |CI::ops=>match rs with
    |[]=>eB
    |r'::rs=>gd (ops.isEmpty&&rs.isEmpty) (EL K Φ D R fin f l op CI r r')
def Nt(Φ:List Fact)(R:Rc)(o:Expr)(apos pos:Pos)(args:List Expr)(c:List Keyword):I AV:=match args with
 |[]=>eB
 |a::r=>match r with
  |[]=>eB
  |b::r=>gd (r.isEmpty&&c.isEmpty) (gd (baseOk o&&(apos.endLine==pos.line)) (Oz Φ R o a b))
def yw(K:Frag)(Φ:List Fact)(R:Rc)(f:Expr)(args:List Expr)(b:List Keyword)(pos:Pos):I AV:=match f with
 |.Name x c=>cv (R.ev (.Name x c)) fun f=>uR R f [] args b
 |.Attribute o name apos=>bif name=="replace" then Nt Φ R o apos pos args b else gd (baseOk o&&((apos.endLine==pos.line)&&(decide (args.length+b.length<20)&&args.all plainArg))) (opt (iJ b) fun _=>cv (R.ev o) fun a=>cv (rd (DA K Φ a name)) fun p=>uR R p.1 p.2 args b)
 |_=>eB
def Hf(R:Rc)(ks:List (Option Expr))(a:List Expr):I AV:=match ks with
 |[]=>match a with
  |[]=>new (.dict [])
  |_::_=>eB
 |k::ks=>NH R (k::ks) a
def Hv(K:Frag)(Φ:List Fact)(D:iM)(R:Rc)(e:Expr):I AV:=match e with
 |.Name x _=>rd (nameOf K x)
 |.Constant c _ _=>Xe ((constOf c).map .lf)
 |.BinOp l op r _=>cv (R.ev l) fun a=>cv (R.ev r) fun b=>Pd K Φ op a b
 |.UnaryOp op x _=>Up Φ R op x
 |.IfExp t a b _=>Tq R t (R.ev a) (R.ev b)
 |.List es _=>gd (es.all plainArg) (cv (R.uF es) fun xs=>gN xs.length (new (.list xs)))
 |.Tuple es _ _=>gd (es.all plainArg) (cv (R.uF es) fun xs=>gN xs.length (ret (.tup xs)))
 |.BoolOp op es _=>FK R Φ op es
 |.Compare l ops rs _=>zp K Φ D R l ops rs toV (.lf (.bool false))
 |.Attribute o name _=>gd (baseOk o) (cv (R.ev o) fun a=>rd (GK K a name))
 |.Subscript o i _=>Nd K Φ R o i
 |.Call f args kw pos=>yw K Φ R f args kw pos
 |.Dict ks vs _=>Hf R ks vs
 |_=>eB
def VV(Φ:List Fact)(R:Rc)(op:UnaryOp)(x e:Expr):I Bool:=match op with
 |.Not=>cv (R.gO x) fun t=>ret !t
 |_=>cv (R.ev e) fun v=>rd fun σ=>iO Φ σ v
def zX(K:Frag)(Φ:List Fact)(D:iM)(R:Rc)(e:Expr):I Bool:=match e with
 |.UnaryOp op x _=>VV Φ R op x e
 |.IfExp t a b _=>Tq R t (R.gO a) (R.gO b)
 |.BoolOp op es _=>GC R op es
 |.Compare l ops rs _=>zp K Φ D R l ops rs Xk false
 |e=>cv (R.ev e) fun v=>rd fun σ=>iO Φ σ v
section
variable{C:Ctx}{F:Fm}{Ω:Om}{R:Rc}{pos:Pos}{D:iM}
theorem Tx(G:Good C)(a:cD C R){op:UnaryOp}{x:Expr}:Sm C F Ω (eval (.UnaryOp op x pos) F.env) (Up C.Φ R op x) (QV C):=by
 induction op with
 |USub=>exact Qz G a
 |Not=>exact PL G a
 |_=>exact .none
theorem Rf(G:Good C)(a:cD C R){o i:Expr}:Sm C F Ω (eval (.Subscript o i pos) F.env) (Nd C.K C.Φ R o i) (QV C):=by
 cases i with
 |Slice lo hi st p=>
  rcases st with _|_
  .exact Fi G a
  .induction lo with
   |none=>cases hi with
    |none=>exact Rw G a
    |some=>exact .none
   |some=>exact .none
 |_=>exact Pl G a
theorem JE(G:Good C)(hD:gn C D)(a:cD C R){l:Expr}{ops:List CmpOp}{rs:List Expr}:Sm C F Ω (eval (.Compare l ops rs pos) F.env) (zp C.K C.Φ D R l ops rs toV (.lf (.bool false))) (QV C):=by
 rcases ops with _|⟨op,ops⟩
 .exact .none
 .cases rs with
  |nil=>exact .none
  |cons r rs=>cases ops with
   |nil=>exact .gd fun h=>by obtain rfl:=bj.mp h;exact JH G hD a
   |cons b ops=>cases rs with
    |nil=>exact .none
    |cons c rs=>
     refine .gd fun h=>?_;have h:=ab.mp h
     obtain rfl:=bj.mp h.1;obtain rfl:=bj.mp h.2;exact Mu G hD a
theorem LJ(G:Good C)(hD:gn C D)(a:cD C R){l e:Expr}{ops:List CmpOp}{rs:List Expr}:Sm C F Ω (isTrue (.Compare l ops rs pos) F.env (eval e F.env)) (zp C.K C.Φ D R l ops rs Xk false) QB:=by
 rcases ops with _|⟨op,ops⟩
 .exact .none
 .cases rs with
  |nil=>exact .none
  |cons r rs=>cases ops with
   |nil=>exact .gd fun h=>by obtain rfl:=bj.mp h;exact EX G hD a
   |cons c ops=>cases rs with
    |nil=>exact .none
    |cons b rs=>
     refine .gd fun h=>?_;have h:=ab.mp h
     obtain rfl:=bj.mp h.1;obtain rfl:=bj.mp h.2;exact DR G hD a
theorem DQ(G:Good C)(d:cD C R){o:Expr}{apos:Pos}{args:List Expr}{c:List Keyword}:Sm C F Ω (eval (.Call (.Attribute o "replace" apos) args c pos) F.env) (Nt C.Φ R o apos pos args c) (QV C):=by
 rcases args with _|⟨a,r⟩
 .exact .none
 .cases r with
  |nil=>exact .none
  |cons b r=>
   refine .gd fun h=>?_;have h:=ab.mp h
   obtain rfl:=bj.mp h.1;obtain rfl:=bj.mp h.2;exact Kw G d
theorem rZ(G:Good C)(a:cD C R){f:Expr}{args:List Expr}{b:List Keyword}:Sm C F Ω (eval (.Call f args b pos) F.env) (yw C.K C.Φ R f args b pos) (QV C):=by
 cases f with
 |Name=>exact Et a
 |Attribute=>exact .cond (fun h=>by obtain rfl:=aC.mp h;exact DQ G a) fun _=>HK G a
 |_=>exact .none
theorem Jq(b:cD C R){ks:List (Option Expr)}{a:List Expr}:Sm C F Ω (eval (.Dict ks a pos) F.env) (Hf R ks a) (QV C):=by
 rcases ks with _|⟨_,_⟩
 .induction a with
  |nil=>exact DD
  |cons=>exact .none
 .exact JG b
theorem Ci(G:Good C)(hD:gn C D)(a:cD C R)(e:Expr):Sm C F Ω (eval e F.env) (Hv C.K C.Φ D R e) (QV C):=by
 cases e with
 |Name=>exact JA G _ _
 |Constant=>exact ET _ _ _
 |BinOp=>exact EJ G a
 |UnaryOp=>exact Tx G a
 |IfExp=>exact Di a
 |List=>exact KR a
 |Tuple=>exact Fd a
 |BoolOp=>exact MN G a _ _
 |Compare=>exact JE G hD a
 |Attribute=>exact JT G a
 |Subscript=>exact Rf G a
 |Call=>exact rZ G a
 |Dict=>exact Jq a
 |_=>exact .none
theorem Bx(G:Good C)(a:cD C R){e:Expr}:Sm C F Ω (eval e F.env>>=fun v=>standAt e.pos>>=fun _=>PySem.holding [v] (truthy v)) (cv (R.ev e) fun v=>rd fun σ=>iO C.Φ σ v) QB:=
 .bind (a.ev F Ω e) fun _ _ _ _ b=>.dA (.holding (qG G b))
theorem xG(G:Good C)(hD:gn C D)(a:cD C R)(e:Expr):Sm C F Ω (isTrue e F.env (eval e F.env)) (zX C.K C.Φ D R e) QB:=by
 have p:Sm C F Ω (eval e F.env>>=fun v=>standAt e.pos>>=fun _=>PySem.holding [v] (truthy v)) (cv (R.ev e) fun v=>rd fun σ=>iO C.Φ σ v) QB:=Bx G a;cases e with
 |UnaryOp op=>cases op with
  |Not=>exact Mb a
  |_=>exact p
 |IfExp=>exact CJ a
 |BoolOp=>exact GS a _ _
 |Compare=>exact LJ G hD a
 |_=>exact p
end
end
section
open PySem.SeqAt
def UH(K:Frag)(R:Rc)(x:Str)(a:Pos)(v:Expr)(Xl:I Fl):I Fl:=match v with
 |.ListComp elt gs sc pos=>match gs with
  |[]=>eB
  |g::gs=>gd (gs.isEmpty&&(g.ifs.isEmpty&&g.is_async==0)) (match g.target with
   |.Name y py=>vP K R x a pos elt y py g.iter sc
   |_=>eB)
 |_=>Xl
def Ot(K:Frag)(R:Rc)(t x:Expr):I Fl:=match t with
 |.Tuple ts c p=>vq K R (.Tuple ts c p) x
 |.Name y py=>UH K R y py x (oT R (.Name y py) x)
 |t=>oT R t x
def NG(K:Frag)(Φ:List Fact)(R:Rc)(t:Expr)(op:Operator)(e:Expr):I Fl:=match t with
 |.Name x _=>cv (rd (nameOf K x)) fun a=>cv (R.ev e) fun b=>cv (yd Φ op a b) fun r=>cv (fM x r) fun _=>ret .next
 |.Attribute o name _=>cv (R.ev o) fun c=>cv (cv (rd (GK K c name)) fun a=>cv (R.ev e) fun b=>yd Φ op a b) fun r=>cv (FC K c name r) fun _=>ret .next
 |.Subscript o i _=>gd (Ee i) (cv (R.ev o) fun c=>cv (R.ev i) fun d=>cv (cv (rd (FP K Φ c d)) fun a=>cv (R.ev e) fun b=>yd Φ op a b) fun r=>cv (yG c d r) fun _=>ret .next)
 |_=>eB
def Hy(K:Frag)(Φ:List Fact)(R:Rc)(s:Stmt):I Fl:=match s with
 |.Expr x _=>gd (jl x) (cv (R.ev x) fun _=>ret Fl.next)
 |.Return v _=>match v with
  |none=>ret (.ret (.lf .none))
  |some x=>cv (R.ev x) fun a=>ret (.ret a)
 |.Pass _=>ret .next
 |.Break _=>ret .brk
 |.Continue _=>ret .cont
 |.If t b o _=>Tq R t (R.fL b) (R.fL o)
 |.Assert t m _=>match m with
  |none=>cv (R.gO t) fun c=>gd c (ret Fl.next)
  |some _=>eB
 |.Try b hs o f _=>match hs with
  |[]=>eB
  |_::_=>gd (o.isEmpty&&f.isEmpty) (R.fL b)
 |.Assign ts x _=>match ts with
  |[]=>eB
  |t::r=>gd r.isEmpty (Ot K R t x)
 |.AugAssign t op e _=>NG K Φ R t op e
 |.For t e b o _=>gd o.isEmpty (gd (fE e) (cv (R.ev e) fun x=>cv (rd (qd K x)) fun it=>Mv R t b turns it))
 |.While t b o _=>gd o.isEmpty (Xr R t b turns)
 |_=>eB
def zg(K:Frag)(R:Rc)(t:Expr)(a:AV):I Unit:=match t with
 |.Name x _=>fM x a
 |.Attribute o name _=>cv (R.ev o) fun b=>FC K b name a
 |.Subscript o i _=>cv (R.ev o) fun b=>cv (R.ev i) fun c=>yG b c a
 |.Tuple ts _ _=>Uu K R ts a
 |_=>eB
def Ar(R:Rc)(l:List Stmt):I Fl:=match l with
 |[]=>ret .next
 |s::r=>Vb R (R.ex s) r
def uz(R:Rc)(l:List Expr):I (List AV):=match l with
 |[]=>ret []
 |e::r=>OE R e r
def Rc.step(K:Frag)(Φ:List Fact)(Es:List Ent)(D:iM)(a:NI)(R:Rc):Rc:=⟨Hv K Φ D R,zX K Φ D R,Hy K Φ R,Ar R,Ny K Φ ⟨Es,R.fL⟩ a,uz R,zg K R⟩
def Rc.zero:Rc:=⟨fun _=>eB,fun _=>eB,fun _=>eB,fun _=>eB,fun _ _ _=>eB,fun _=>eB,fun _ _=>eB⟩
def Rc.iter(K:Frag)(Φ:List Fact)(Es:List Ent)(D:iM)(a:NI)(n:Nat):Rc:=Nat.rec Rc.zero (fun _ R=>R.step K Φ Es D a) n
section
variable{C:Ctx}{F:Fm}{Ω:Om}{R:Rc}{pos:Pos}{D:iM}{ty:NI}{a:AV}{v:Value}{Es:List Ent}
theorem MR(G:Good C)(c:cD C R){x:Str}{b:Pos}{v:Expr}:Sm C F Ω (exec (.Assign [.Name x b] v pos) F.env) (UH C.K R x b v (oT R (.Name x b) v)) (QF C):=by
 cases v with
 |ListComp elt gs sc p=>
  rcases gs with _|⟨g,gs⟩
  .exact .none
  .refine .gd fun h=>?_;rw [aW,aW] at h
   obtain⟨t,e,ifs,as⟩:=g;obtain rfl:=bj.mp h.1;obtain rfl:=bj.mp h.2.1;obtain rfl:=aC.mp h.2.2;clear h;cases t with
   |Name=>exact xZ G c
   |_=>exact .none
 |_=>exact Eb c
theorem Hg(G:Good C)(b:cD C R){t x:Expr}:Sm C F Ω (exec (.Assign [t] x pos) F.env) (Ot C.K R t x) (QF C):=by
 cases t with
 |Tuple=>exact Lc G b
 |Name=>exact MR G b
 |_=>exact Eb b
theorem HF(G:Good C)(b:cD C R){t e:Expr}{op:Operator}:Sm C F Ω (exec (.AugAssign t op e pos) F.env) (NG C.K C.Φ R t op e) (QF C):=by
 cases t with
 |Name=>exact yr G b
 |Attribute=>exact yv G b
 |Subscript=>exact BX G b
 |_=>exact .none
theorem BP(G:Good C)(c:cD C R)(s:Stmt):Sm C F Ω (exec s F.env) (Hy C.K C.Φ R s) (QF C):=by
 cases s with
 |Expr=>exact Ly c
 |Return v=>cases v with
  |none=>exact xp
  |some=>exact Ct c
 |Pass=>exact Mn
 |Break=>exact El
 |Continue=>exact uX
 |If=>exact VN c
 |Assert t m=>cases m with
  |none=>exact BZ c
  |some=>exact .none
 |Try b d o f=>cases d with
  |nil=>exact .none
  |cons=>
   refine .gd fun h=>?_;have h:=ab.mp h
   obtain rfl:=bj.mp h.1;obtain rfl:=bj.mp h.2;exact PD c
 |Assign ts=>cases ts with
  |nil=>exact .none
  |cons t r=>
   refine .gd fun h=>?_;obtain rfl:=bj.mp h
   exact Hg G c
 |AugAssign=>exact HF G c
 |For t e b o=>
  refine .gd fun h=>?_;obtain rfl:=bj.mp h
  exact Po G c
 |While t b o=>
  refine .gd fun h=>?_;obtain rfl:=bj.mp h
  exact DW c
 |_=>exact .none
theorem xF(G:Good C)(c:cD C R)(t:Expr)(b:VR C Ω a v):Sm C F Ω (assign t F.env v) (zg C.K R t a) QU:=by
 cases t with
 |Name=>exact lY b
 |Attribute=>exact FQ G c b
 |Subscript=>exact IW c b
 |Tuple=>exact BI G c b
 |_=>exact .none
theorem xN(b:cD C R)(l:List Stmt):Sm C F Ω (execs l F.env) (Ar R l) (QF C):=by
 rcases l with _|⟨_,_⟩
 .exact .pure fun _ _=>.next
 .exact HU b
theorem xn(b:cD C R)(l:List Expr)(h:l.all plainArg=true):Sm C F Ω (spliced (starEach l F.env)) (uz R l) (Kn C):=by
 rcases l with _|⟨_,_⟩
 .exact .pure fun _ _=>.nil
 .exact GO b h
theorem xA(b:cD C R)(l:List Keyword):Sm C F Ω (evalAll ((backToKw pos (keywordEach l F.env)).map (·.2))) (uz R (l.map fun k=>k.value)) (Kn C):=by
 rcases l with _|⟨_,_⟩
 .exact .pure fun _ _=>.nil
 .exact kws_cons b
theorem mA(G:Good C)(c:dT C Es)(hD:gn C D)(hT:Fn C ty)(b:cD C R):cD C (R.step C.K C.Φ Es D ty):=
 ⟨fun _ _=>Ci G hD b,fun _ _=>xG G hD b,fun _ _=>BP G b,fun _ _=>xN b,JB G ⟨c,b.fL⟩ hT,fun _ _=>xn b,fun _ _ l _=>xA b l,fun _ _ t _ _=>xF G b t⟩
theorem Lm:cD C Rc.zero:=⟨fun _ _ _=>.none,fun _ _ _=>.none,fun _ _ _=>.none,fun _ _ _=>.none,fun _ _ _ _ _ _ _ _ _ _ _ _ _ _=>trivial,fun _ _ _ _=>.none,fun _ _ _ _=>.none,fun _ _ _ _ _ _=>.none⟩
theorem gU(G:Good C)(b:dT C Es)(hD:gn C D)(hT:Fn C ty)(n:Nat):cD C (Rc.iter C.K C.Φ Es D ty n):=by
 induction n with
 |zero=>exact Lm
 |succ n c=>exact mA G b hD hT c
end
end
section
open PySem.SeqAt
theorem qT:entryFor table "dict.update.loop"=some Builtin.«dict.update.loop»:=entryFor_of_fast (by kernel_rfl)
theorem jV:plainId "dict.update.loop"=true:=by decide+kernel
section
theorem oM{o:Value}{name:Str}{msg:Str}{Q:α->Shared->Prop}(j:A.handled=none)
  (h:∀f c e,s.toks<=c->Heap.NewAttrErr s.heap f e o name->E (.ref e) { s with heap:=f,toks:=c }) (i:msg.length<=sizeLine):
  wpAny (model prog w) A (raiseAttrError o name msg:Sem α) Q E s:=by
 refine ai (wpAny_mkStr (ai (ai (wpAny_newObj_type (ai (m:=firstArgMember _ _) (wpAny_of_eq (a:=Value.none) (by simp only [firstArgMember,attrError_no_first];rfl) (eL (ownMembersOf_AttributeError ..) (wpAny_newObj_type ?_ (by size_fits))))) (by size_fits)))) i);obtain⟨hp,g,d,c,os⟩:=s;have k:=sub_AttributeError
 repeat (any_goals (first|assumption|wp_step))
 refine ai (wpAny_handled (eL j ?_))
 first
  |refine wpAny_throw ?_
  |refine ai (aL (wpAny_throw ?_))
 refine h _ _ _ (by repeat (first|exact ah _|apply le_succ_of_le)) ⟨fun b ob hb=>?_,Heap.get?_none_of_le (by simp),?_⟩
 .refine (Heap.get?_update_other _ _ ?_).trans (aP _ (aP _ hb));simp only [Heap.size_push];exact bC (Nat.lt_succ_of_lt (Heap.lt_size hb:b<hp.objs.size))
 .exact dJ _ _ (Heap.get?_update_self _ (bp _ rfl) rfl)
theorem Cu(a)(xs)(k)(name:Str)(u:Tok)(l:typeLookup (.type "list") name=pure none)(j:(["__module__","__name__","__qualname__","__doc__","__annotations__"]:List Str).contains name=false)(h:name.length+100<=sizeLine):
  Meets (Builtin.«object.__getattribute__» ⟨[.ref a,.str name u],[]⟩) (fun A R s=>s.heap.get? a=some (listOf xs k)/\A.handled=none/\∀f c e,s.toks<=c->Heap.NewAttrErr s.heap f e (.ref a) name->R (.error (.ref e)) { s with heap:=f,toks:=c }):=
 Meets.of_wp fun prog w A R s b=>by
  obtain⟨hp,g,d,c,os⟩:=s;refine bY b fun i b=>?_
  have hT:(⟨hp,g,d,c,os⟩:Shared).TypeIs (.ref a) "list":=⟨_,i,rfl⟩
  repeat (any_goals (first|assumption|wp_step))
  refine wpAny_ite_false (by refine eL j ?_;decide) ?_
  repeat (any_goals (first|assumption|wp_step))
  exact oM b.1 b.2 (attrMsg_fits (by decide+kernel) h)
theorem Jn:typeLookup (.type "list") "keys"=pure none:=by refine eL (typeLookup_type ..) (eL builtinLookup_eq_fast ?_);kernel_rfl
theorem Bv(j:s.heap.get? a=some (listOf xs k))(n:A.handled=none)
  (h:∀f c,s.toks<=c->(∀b o,s.heap.get? b=some o->f.get? b=some o)->Q none { s with heap:=f,toks:=c }):
  wpAny (model prog w) A (getAttr? (.ref a) "keys") Q E s:=by
 obtain⟨hp,g,d,c,os⟩:=s;have hT:∀l,(⟨hp,g,d,l,os⟩:Shared).TypeIs (.ref a) "list":=fun _=>⟨_,j,rfl⟩
 have x:=sub_AttributeError;have q:=F.slot_list_getattribute.lookup;have u:=F.slot_list_getattribute.bind (.ref a);have r:=am_list_getattr_none
 repeat (any_goals (first|assumption|exact hT _|((with_reducible show wpAny _ _ (call (Value.builtin "list.__getattribute__") _ _) _ _ _);refine call_meets F.slot_list_getattribute (hT _) am_entry_list_getattribute (F.args_list_getattribute_2 _ _) (Cu a xs k "keys" _ Jn (by decide+kernel) (by size_fits)) ⟨j,n,fun f l e m i=>?_⟩)|wp_step))
 refine uc (i.there) fun t v p=>?_;unfold getattributeRaised
 repeat (any_goals (first|assumption|wp_step))
 exact h _ _ (ag (aE _) m) i.keeps
theorem Mq{R:Result->Shared->Prop}(h:A.handled=none)(I:s.heap.IsListIter it l 0)(g:s.heap.get? l=some (listOf #[] i))(k:∀a,(∀b o,b≠it->s.heap.get? b=some o->a.get? b=some o)->R (.ok (.ret .none)) (gy s a s.toks)):
  wpAny (model prog w) A.in1 (Builtin.«dict.update.loop» ⟨[.ref d,.ref it,rawInt 0,.none],[]⟩) (fun fin s'=>match fin with |.done f=>R (.ok f) s' |.again c=>c.quiet=true/\codeAny (model prog w) A c R s') (fun e s'=>R (.error e) s') s:=by
 exact ai (wpAny_pyNext_list_end h I ⟨_,g,rfl,i,rfl⟩ rfl fun a j=>ai (aL (aL (k a j))))
end
end
section
open PySem.SeqAt
def Oj(a:AV):I AV:=fun σ=>((fQ a).bind (listAt σ)).bind fun xs=>(gd xs.isEmpty (new (.dict []))) σ
def lU(Φ:List Fact):NI:=fun n args=>match args with
 |[]=>eB
 |a::r=>match r with
  |[]=>bif n=="str" then rd fun _=>(iB a).bind fun x=>(kH Φ .Zw [x]).map .lf else gd (n=="dict") (Oj a)
  |b::r=>gd (r.isEmpty&&n=="int") (rd fun _=>(iB a).bind fun x=>(iB b).bind fun y=>(kH Φ .toInt [x,y]).map .lf)
section
variable{C:Ctx}{F:Fm}{Ω cj:Om}{σ τ:St}{R:Rc}{pos:Pos}{A:Around}{s:Shared}{a:AV}{v:Value}{l:Addr}{kl:Nat}
theorem BD(n:A.handled=none)(j:s.heap.get? l=some (listOf #[] kl))
  (t:∀c i d,s.toks<=i->s.heap.get? d=none->(∀b o,s.heap.get? b=some o->c.get? b=some o)->c.DictOf (strKind C.prog C.w) d []->Q (.ref d) (gy s c i)):wpAny C.M A (call (.type "dict") [.ref l]) Q E s:=by
 refine callType_codes (Q₁:=fun obj s₁=>obj=.ref s.heap.objs.size/\s₁={ s with heap:=s.heap.push { cls:=.type "dict",data:=.dict #[] } }) F.kt_called_dict (F.kt_typeCall_dict_1 _) F.entry_dict_init (kt_code_dict_new _ ⟨rfl,rfl⟩) ?_
 rintro obj s₁ ⟨rfl,rfl⟩
 have f:(s.heap.push { cls:=.type "dict",data:=.dict #[] }).DictOf (strKind C.prog C.w) s.heap.objs.size []:=Heap.DictOf.new s.heap;have k:∀b o,s.heap.get? b=some o->(s.heap.push { cls:=.type "dict",data:=.dict #[] }).get? b=some o:=fun b o e=>aP _ e
 refine⟨f.typeIs,F.args_dict_init_2 _ _,(ai (ai (wpAny_notOrdered_dict f.typeIs (aL ?_))))⟩;show wpAny _ _ (Builtin.Dict.updateFrom "dict.__init__" s.heap.objs.size (.ref l) [] .none) _ _ _;refine ai (wpAny_typeOf ⟨_,k _ _ j,rfl⟩ (wpAny_ite_true (by decide) (ai (Bv (k _ _ j) n fun g i r m=>?_))));have h:∀b o,s.heap.get? b=some o->g.get? b=some o:=fun b o e=>m _ _ (k _ _ e)
 have u:s.heap.get? g.objs.size=none:=match q:s.heap.get? g.objs.size with
  |none=>rfl
  |some o=>absurd (qk (h _ _ q)) (lt_irrefl _)
 exact wpAny_ite_true rfl (ai (wpAny_rule (ai (wpAny_pyIter_list ⟨_,h _ _ j,rfl,_,rfl⟩ (aL ⟨plainId_quiet jV _,codeAny_builtin qT (eL (Around.under_plainId jV _) (Mq n ⟨_,bp _ rfl,rfl,rfl⟩ (aP _ (h _ _ j)) fun c p=>⟨rfl,t c i _ r (cK s.heap (ah _)) (fun b o e=>p b o (bX e u) (aP _ (h _ _ e))) (f.at fun o e=>p _ o ((fG f).elim fun o e=>ne_of_lt (qk (m _ _ e)):s.heap.objs.size≠g.objs.size) (aP _ (m _ _ e)))⟩))⟩)))))
theorem Ei(H:Hr C F Ω σ)(c:VR C Ω a v):OP (Oj a σ) (oi C F Ω (call (.type "dict") [v])):=
 .bind (.bind ((dZ c).mono fun j f=>.intro fun xs e=>.gd fun g=>by
  refine bY f ?_;clear f;intro i _;clear c;subst i;obtain rfl:=bj.mp g;refine cw (H.list e) fun r o n m _=>?_;clear g;obtain rfl:=m.nil_inv
  exact BD H.room.handled n fun t p d h hd k b=>cW.new H h k hd hd (fG b) (fG b) (fun cb w e=>⟨_,eL e b,.nil,zero_le _⟩) fun _ _ q=>q))
theorem jf(G:Good C):Fn C (lU C.Φ):=fun F Ω σ n args f H r=>by
 rcases args with _|⟨a,g⟩
 .trivial
 .obtain ⟨i,f,rfl,c,r⟩:=r.cons_inv;cases g with
  |nil=>
   cases r.nil_inv;exact .sG (fun e=>by obtain rfl:=aC.mp e;exact .map (.bind ((cI c).mono fun x d=>.map (fC G H (SE H.rel.toks d))))) (.gd fun e=>by cases aC.mp e;exact Ei H c)
  |cons b g=>
   obtain⟨j,f,rfl,hb,r⟩:=r.cons_inv;refine .gd fun e=>?_
   have e:=ab.mp e;obtain rfl:=bj.mp e.1;obtain rfl:=aC.mp e.2;obtain rfl:=r.nil_inv;exact .map (.bind ((cI c).mono fun x d=>.bind ((cI hb).mono fun y h=>.map (fC G H (Qp d h)))))
end
end
section
open PySem.SeqAt PySem.MeetsSeq PySem.MeetsSeq2 PySem.MeetsSeq3
open PySem.AutoSeq1 (wpAny_loadPart')
section
def Ih(prog:Program)(w:World)(A:Around)(s:Shared)(y x:Value)(b:Bool):Prop:=∀E Q,Q b s->wpAny (model prog w) A (eqBool y x) Q E s
def zS(prog:Program)(w:World)(op:CmpOp)(A:Around)(s:Shared)(y x:Value)(b:Bool):Prop:=∀E Q,Q (.bool b) s->wpAny (model prog w) A (richCompare op y x) Q E s
theorem Hx(l b)(n c):MeetsIn prog w (Builtin.«list.__eq__.loop» ⟨[.ref l,.ref b,rawInt 0,rawInt 2],[]⟩)
   (fun A R s=>s.heap.get? l=some { cls:=.type "list",data:=.seq #[] n }/\s.heap.get? b=some { cls:=.type "list",data:=.seq #[] c }/\R (.ok (.ret (.bool true))) s):=by
 intro A R s h;obtain⟨hp,g,d,e,os⟩:=s;refine fq h fun a hb h=>?_
 wp_walk using bN a,bN hb
 exact h
theorem Dw(l b)(n c):MeetsIn prog w (Builtin.«list.__eq__» ⟨[.ref l,.ref b],[]⟩)
   (fun A R s=>s.heap.get? l=some { cls:=.type "list",data:=.seq #[] n }/\s.heap.get? b=some { cls:=.type "list",data:=.seq #[] c }/\R (.ok (.ret (.bool true))) s):=by
 intro A R s h;obtain⟨hp,g,d,f,os⟩:=s;refine fq h fun a hb h=>?_
 have e:=AutoSeq1.sub_list_list
 wp_walk using bN a,bN hb
 exact⟨plainId_quiet plain_eq_loop _,codeAny_builtin entry_eq_loop (by
  refine eL (Around.under_plainId plain_eq_loop _) ?_;exact Hx l b n c A R _ ⟨a,hb,h⟩)⟩
theorem zS.Fu(ho:s.heap.get? l=some { cls:=.type "list",data:=.seq #[] n })(a:s.heap.get? b=some { cls:=.type "list",data:=.seq #[] d })(c:A.units<cLine):zS prog w .Eq A s (.ref l) (.ref b) true:=fun E Q h=>
 wpAny_richCompare_same_room ⟨_,ho,rfl⟩ ⟨_,a,rfl⟩ F.slot_list_eq (call_meetsIn F.slot_list_eq ⟨_,ho,rfl⟩ F.entry_list_eq (F.args_list_eq_2 _ _) (Dw l b n d)
  ⟨ho,a,show Value.bool true≠Value.notImplemented/\Q (.bool true) s from⟨(fun x=>Value.noConfusion x),h⟩⟩) c
theorem Gh(l b)(items a)(n y)(r:items.size=a.size)(e)(k):
  ∀i:Nat,items.size-i=k->MeetsIn prog w (Builtin.«list.__eq__.loop» ⟨[.ref l,.ref b,rawInt i,rawInt 3],[]⟩)
   (fun A R s=>s.heap.get? l=some { cls:=.type "list",data:=.seq items n }/\s.heap.get? b=some { cls:=.type "list",data:=.seq a y }/\
    (∀j C (B:j<a.size),Ih prog w A.in1 s items[j] a[j] (e j))/\
    R (.ok (.ret (.bool (!((List.range items.size).drop i).all e)))) s):=by
 induction k with
 |zero=>
  intro i c A R s h;obtain⟨hp,g,d,x,os⟩:=s;refine tB h fun m hb q h=>?_
  wp_walk using bN m,bN hb
  have p:items[((i:Nat):Int).toNat]?=none:=by simp;exact dN 0x10F214FC2016F80 tt c uo
  have o:a[((i):Int).toNat]?=none:=by simp;exact kF 0x10F237F314FC2016F80 tt c uo r
  have hd:(List.range items.size).drop i=[]:=by simp;exact Nat.le_of_sub_eq_zero c
  rw [hd] at h;refine eL p (eL o ?_)
  wp_walk using bN m,bN hb
  show R (.ok (.ret (.bool (items.size !=a.size)))) _;refine eL r ?_
  simpa using h
 |succ k z=>
  intro i c A R s h;obtain⟨hp,g,d,x,os⟩:=s;refine tB h fun m hb q h=>?_
  wp_walk using bN m,bN hb
  have f:i<items.size:=by exact kF 0x11F326F3C207FC910 tt c (tW (cC 0x11F087FC910 tt c))
  have t:i<a.size:=by exact dN 0x11F125F026F10 tt r f
  have p:items[((i):Int).toNat]?=some items[i]:=by simp [f]
  have o:a[((i:Nat):Int).toNat]?=some a[i]:=by simp [t]
  have hd:(List.range items.size).drop i=i::(List.range items.size).drop (i+1):=by simp [List.drop_eq_getElem_cons,f]
  have v:((i:Int)+1)=((i+1)):=by push_cast;rfl
  rw [hd,all_cons] at h;refine eL p (eL o (ai (q i f t _ _ ?_)));rcases u:e i with _|_
  .rw [u] at h
   wp_walk using bN m,bN hb
   refine eL p (eL o ?_)
   wp_walk
   exact h
  .rw [u] at h
   wp_walk
   refine eL v ?_;exact⟨plainId_quiet plain_eq_loop _,codeAny_builtin entry_eq_loop (by
    refine eL (Around.under_plainId plain_eq_loop _) ?_;exact z (i+1) (rj 0x12F406FC9437F2C136F2CC910 tt (aq (cC 0x10F1C905F10 tt f)) (aq (cC 0x10F105F10 tt f)) c) A R _ ⟨m,hb,q,by exact h⟩)⟩
theorem Gu(l b)(items a:Array Value)(n c)(i:items.size=a.size)(e:Nat->Bool):
  MeetsIn prog w (Builtin.«list.__ne__» ⟨[.ref l,.ref b],[]⟩)
   (fun A R s=>s.heap.get? l=some { cls:=.type "list",data:=.seq items n }/\s.heap.get? b=some { cls:=.type "list",data:=.seq a c }/\
    (∀j (p:j<items.size) (q:j<a.size),Ih prog w A.in1 s items[j] a[j] (e j))/\
    R (.ok (.ret (.bool (!(List.range items.size).all e)))) s):=by
 intro A R s h;obtain⟨hp,g,d,o,os⟩:=s;refine tB h fun f hb k h=>?_
 have m:=AutoSeq1.sub_list_list;have r:¬(items.size !=a.size)=true:=by simp [i]
 wp_walk using bN f,bN hb
 exact⟨plainId_quiet plain_eq_loop _,codeAny_builtin entry_eq_loop (by
  refine eL (Around.under_plainId plain_eq_loop _) ?_;exact Gh l b items a n c i e _ 0 rfl A R _ ⟨f,hb,k,by exact h⟩)⟩
theorem zS.DO(ho:s.heap.get? l=some { cls:=.type "list",data:=.seq items n })(c:s.heap.get? b=some { cls:=.type "list",data:=.seq a g })(d:items.size=a.size)(f:A.units<cLine)
  (i:∀j (k:j<items.size) (m:j<a.size),Ih prog w A.in1 s items[j] a[j] (e j)):zS prog w .NotEq A s (.ref l) (.ref b) (!(List.range items.size).all e):=fun E Q h=>
 wpAny_richCompare_same_room ⟨_,ho,rfl⟩ ⟨_,c,rfl⟩ F.slot_list_ne (call_meetsIn F.slot_list_ne ⟨_,ho,rfl⟩ F.entry_list_ne (F.args_list_ne_2 _ _) (Gu l b items a n g d e)
  ⟨ho,c,i,show Value.bool (!(List.range items.size).all e)≠Value.notImplemented/\Q (.bool (!(List.range items.size).all e)) s from⟨(fun x=>Value.noConfusion x),h⟩⟩) f
theorem Ih.of_refs(d:l≠b)(h:zS prog w .Eq A s (.ref l) (.ref b) k):Ih prog w A s (.ref l) (.ref b) k:=fun E Q a=>by
 exact bK (wpAny_ite_split (fun c=>absurd (by have:=eq_of_beq c;injection this) d) (fun _=>(ai (h _ _ (wpAny_truthy_bool a)))))
theorem IB(n)(b)(f:Nat->β->Sem (ForInStep β)):forIn [:n] b f=forIn (range' 0 n) b f:=by
 refine eL (Std.Legacy.Range.forIn_eq_forIn_range' ..) ?_;simp only [Std.Legacy.Range.size,Nat.sub_zero,Nat.add_sub_cancel,Nat.div_one]
@[elab_as_elim] theorem Kl{P Q:Nat->Prop}{G:β->σ->Prop}(h:s'=s0/\b=a/\∃i,P i/\Q i)(k:∀i,P i->Q i->G a s0):G b s':=by
 obtain⟨rfl,rfl,i,p,q⟩:=h;exact k i p q
theorem yH(hr:x::rest=range' i (n-i))(hi:i<=n):x<n/\rest=range' (x+1) (n-(x+1)):=by
 have a:i<n:=by
  clear hi;rcases aV i n with z|z
  .exact z
  .rw [Nat.sub_eq_zero_of_le z] at hr;exact YJ hr
 rw [show n-i=(n-(i+1))+1 by exact kF 0x12FC9036F2C137F2CC910 tt (aq (cC 0x10F1C905F10 tt a)) (aq (cC 0x10F104F10 tt hi)),List.range'_succ] at hr;clear hi;injection hr with b c
 subst b;exact⟨a,c⟩
theorem DI(a b:Addr)(n ob:Obj)(es c:Array DictEntry)(z D:Nat):MeetsIn prog w (Builtin.«dict.__eq__» ⟨[.ref a,.ref b],[]⟩) (fun A R s=>(s.heap.get? a=some n/\s.heap.get? b=some ob/\n.data=.dict es z/\ob.data=.dict c D/\ob.cls=.type "dict"/\(a==sysModules)=false/\(b==sysModules)=false/\es.size=c.size)/\
  (KeysOf (strKind prog w) c/\∀j (N:j<es.size),∃k i f,(strKind prog w).is k es[j].key=true/\es[j].hash=(strKind prog w).hash k/\(c.findIdx? fun e=>(strKind prog w).is k e.key)=some i/\c[i]?=some f/\Ih prog w A.in1 s es[j].val f.val true)/\R (.ok (.ret (.bool true))) s):=by
 intro A R s h;refine fq h fun q E C=>?_
 obtain⟨d,hb,g,m,v,H,B,M⟩:=q;obtain⟨u,J⟩:=E;unfold Builtin.«dict.__eq__»
 wp_walk
 refine eL v (eL isSubtype_dict_dict (aL (eL (if_neg (by decide)) ?_)));unfold Builtin.Dict.addrOf Builtin.Dict.samePairs Builtin.Dict.showsAll;refine ai (aL (ai (aL (eL (if_neg (by refine eL H ?_;decide)) (eL (if_neg (by refine eL B ?_;decide)) ?_)))));refine ai (ai (aL (ai (aL (ai (wpAny_dictEntries d g (ai (wpAny_dictEntries hb m (eL (if_neg (by refine eL M ?_;simp)) ?_)))))))));refine ai (wpAny_dictEpoch d g (eL (IB ..) (ai (wpAny_forIn_list _ (fun rest b s'=>s'=s/\b=(none,())/\∃i,rest=range' i (es.size-i)/\i<=es.size) _ ?_ ?_ _ _ ⟨rfl,rfl,0,by rfl,zero_le _⟩))))
 .intro x rest b s' h;refine Kl (G:=fun _ L=>wpAny _ _ _ _ _ L) h fun i hr hi=>(bY (yH hr hi) fun l r=>(xD (J x l) fun k j f F y p o t=>(ai (wpAny_dictEntries d g (eL (Array.getElem?_eq_getElem l) ?_)))))
  exact ai (bK (eL y (ai (wpAny_dictFind_of F hb m u (eL p (ai (wpAny_dictEntries hb m (eL o (bK (t _ _ (eL (if_neg (by decide)) (ai (wpAny_dictEpoch d g (eL (if_neg (by simp)) (aL ⟨rfl,rfl,x+1,r,l⟩)))))))))))))))
 .rintro b s' ⟨rfl,rfl,_⟩
  exact aL (aL C)
theorem zS.VD{d:Obj}(g:s.heap.get? a=some d)(hb:s.heap.get? b=some ob)(p:d.data=.dict es r)(v:ob.data=.dict c t)(l:d.cls=.type "dict")(m:ob.cls=.type "dict")(u:(a==sysModules)=false)(q:(b==sysModules)=false)
  (y:es.size=c.size) (n:A.units<cLine)
  (o:KeysOf (strKind prog w) c/\∀j (z:j<es.size),∃k i f,(strKind prog w).is k es[j].key=true/\es[j].hash=(strKind prog w).hash k/\(c.findIdx? fun e=>(strKind prog w).is k e.key)=some i/\c[i]?=some f/\Ih prog w A.in1 s es[j].val f.val true):zS prog w .Eq A s (.ref a) (.ref b) true:=fun E Q h=>
 wpAny_richCompare_same_room ⟨_,g,l⟩ ⟨_,hb,m⟩ F.slot_dict_eq (call_meetsIn F.slot_dict_eq ⟨_,g,l⟩ F.entry_dict_eq (F.args_dict_eq_2 _ _) (DI a b d ob es c r t)
  ⟨⟨g,hb,p,v,m,u,q,y⟩,o,show Value.bool true≠Value.notImplemented/\Q (.bool true) s from⟨(fun x=>Value.noConfusion x),h⟩⟩) n
end
end
section
open PySem.SeqAt
noncomputable def all2(f:AV->AV->Bool)(xs ys:List AV):Bool:=(xs.length==ys.length)&&(xs.zip ys).all fun p=>f p.1 p.2
def zZ(f:AV->AV->Bool)(es a:List (Str×AV)):Bool:=(es.length==a.length)&&es.all fun p=>dg (a.lookup p.1) (f p.2) false
def VK(σ:St)(f:AV->AV->Bool)(i j:Nat):Bool:=!(i==j)&&dg (listAt σ i) (fun xs=>dg (listAt σ j) (fun ys=>xs.isEmpty&&ys.isEmpty) false) (dg (dictAt σ i) (fun es=>dg (dictAt σ j) (zZ f es) false) false)
def eqT(Φ:List Fact)(σ:St)(n:Nat):AV->AV->Bool:=Nat.rec (fun _ _=>false) (fun _ f a b=>dg (CW Φ a b) (fun c=>c) (dg (fQ a) (fun i=>dg (fQ b) (VK σ f i) false) false)) n
noncomputable def KO(a:AV):Option (List AV):=match a with
 |.tup xs=>some xs
 |_=>none
def Jt(o:Option Bool):Bool:=dg o (fun c=>c) false
def dG:iM:=fun Φ σ n a b=>bif dg (KO a) (fun xs=>dg (KO b) (all2 (fun a b=>Jt (CW Φ a b)) xs) false)
 (n&&dg (fQ a) (fun i=>dg (fQ b) (fun j=>!(i==j)&&dg (listAt σ i) (fun xs=>dg (listAt σ j) (all2 (eqT Φ σ 19) xs) false) false) false) false) then some true else none
section
variable{C:Ctx}{F:Fm}{Ω cj:Om}{σ τ:St}{A:Around}{a b:AV}{v u:Value}{f:AV->AV->Bool}
theorem MI(h:all2 f xs ys=true):xs.length=ys.length/\∀(t:Nat) x y,xs[t]?=some x->ys[t]?=some y->f x y=true:=by
 have h:=ab.mp h;exact⟨aC.mp h.1,fun t x y c d=>ak.mp h.2 (x,y) (aR (List.getElem?_zip_eq_some.mpr ⟨c,d⟩))⟩
abbrev v9(C:Ctx)(A:Around)(Ω:Om)(v u:Value):Prop:=Ih C.prog C.w A Ω.s v u true/\zS C.prog C.w .Eq A Ω.s v u true
theorem all_range(n):(List.range n).all (fun _=>true)=true:=ak.mpr fun _ _=>rfl
theorem wi{xs ys:List AV}(q:de C Ω xs e)(p:de C Ω ys us)(h:all2 f xs ys=true){P:Value->Value->Prop}(k:∀x y v u,VR C Ω x v->VR C Ω y u->f x y=true->P v u):e.toArray.size=us.toArray.size/\∀j c (d:j<us.toArray.size),P e.toArray[j] us.toArray[j]:=by
 have z:=MI h;refine⟨by exact eL q.size (eL p.size (eL z.1 rfl)),fun j c d=>?_⟩;have e1:=ao (q.size▸c);have e2:=ao (p.size▸d);exact k _ _ _ _ (q.at_ j _ _ e1 (ao (size_toArray ..▸c))) (p.at_ j _ _ e2 (ao (size_toArray ..▸d))) (z.2 j _ _ e1 e2)
theorem pairs_at(h:Pairs (strKind C.prog C.w) es k):∀ {t:Nat} {d},es[t]?=some d->∃c,k[t]?=some c/\(strKind C.prog C.w).is c.1 d.key=true/\d.val=c.2:=by
 induction h with
 |nil=>exact fun e=>cX e
 |cons l i _ j=>
  intro t d hd;rcases t with _|t
  ·(injection hd with g;subst g);exact⟨_,rfl,l,i⟩
  .exact j hd
theorem Ew{es:Array DictEntry}{f:DictEntry}(e:es.find? p=some f):∃i,es.findIdx? p=some i/\es[i]?=some f:=by
 obtain⟨d,i,hi,c,h⟩:=Array.find?_eq_some_iff_getElem.mp e;refine⟨i,Array.findIdx?_eq_some_iff_getElem.mpr ⟨hi,eL c d,fun j g=>?_⟩,eL (Array.getElem?_eq_getElem hi) (eL c rfl)⟩
 simpa using h j g
theorem F2.left{α β:Type}{P:α->β->Prop}{as:List α}{bs:List β}(h:F2 P as bs):∀ {k:Nat} {b:β},bs[k]?=some b->∃a,as[k]?=some a/\P a b:=by
 induction h with
 |nil=>exact fun e=>cX e
 |cons h _ d=>
  intro k b e;rcases k with _|k
  ·(injection e with c;subst c);exact⟨_,rfl,h⟩
  .exact d e
theorem Dx{es:List (Str×AV)}(q1:Ω.h.DictOf (strKind C.prog C.w) i g)(p1:Ω.h.DictOf (strKind C.prog C.w) j NJ)(n:fW C Ω es g)(q:fW C Ω B NJ)(M:(i==sysModules)=false)(N:(j==sysModules)=false)(G:A.units<cLine)(h:zZ f es B=true)
  (k:∀x y v u,VR C Ω x v->VR C Ω y u->f x y=true->Ih C.prog C.w A.in1 Ω.s v u true):zS C.prog C.w .Eq A Ω.s (.ref i) (.ref j) true:=by
 have h:=ab.mp h;refine MH q1 fun oa o G5 ga xa da L l na=>(MH p1 fun ob eb G2 S U D O e nb=>(zS.VD ga S da D xa.1 U.1 M N (by exact eL (eR length_toList l.length:o.size=g.length) (eL (eR length_toList e.length:eb.size=NJ.length) (eR n.len (eR q.len (aC.mp h.1))))) G ⟨O,fun t d=>(bW (L o[t] (Array.getElem_mem d)) fun k' c m=>(cS (pairs_at l (eL getElem?_toList (eL (Array.getElem?_eq_getElem d) rfl))) fun kv c1 c2 Z=>?_))⟩))
 obtain rfl:=(strKind C.prog C.w).inj _ _ _ c c2;refine cS (n.left c1) fun p d0 d1 H=>(bW (cH (ak.mp h.2 p (aR d0))) fun y X J=>(bW ((fW.find q p.1).1 y X) fun w r P=>(bW (aQ.mp (eR r (e.find p.1))) fun E f4 T=>(bW (Ew (eR Array.find?_toList f4)) fun z V z2=>?_))))
 rw [d1] at c m;exact kj p.1 z E ⟨c,m,V,z2,eL Z (eL T (k _ _ _ _ H P J))⟩
theorem So(G:Good C)(H:Hr C F Ω σ):∀m {A} {a b} {v u},A.units+m<cLine->VR C Ω a v->VR C Ω b u->eqT C.Φ σ m a b=true->v9 C A Ω v u:=by
 intro m;induction m with
 |zero=>
  intro _ _ _ _ _ _ _ _ e;exact jD e
 |succ m t=>
  intro A a b v u h d hb e;have r:=Nat.lt_of_le_of_lt (aK _ _) h;have n:A.in1.units+m<cLine:=Nat.lt_of_le_of_lt (Nat.le_of_eq (by exact cC 0x12FCC910C1C90 tt)) h;have e:dg (CW C.Φ a b) (fun c=>c) (dg (fQ a) (fun i=>dg (fQ b) (VK σ (eqT C.Φ σ m) i) false) false)=true:=e;clear h;rcases k:CW C.Φ a b with _|c
  .rw [k] at e;refine bW (cH e) fun i hi e=>(bW (cH e) fun j M e=>(bY ((dZ d).of hi) fun o N=>?_))
   clear hi d;subst o;refine bY ((dZ hb).of M) fun o L=>?_
   clear M hb;subst o;have e:=ab.mp e;have ne:=(H.rel.inj i j N L (fun z=>by rw [z,bk] at e;exact noConfusion e.1)).1;have rc:zS C.prog C.w .Eq A Ω.s (.ref (Ω.ρ i).1) (.ref (Ω.ρ j).1) true:=by
    clear ne L N;rcases B:listAt σ i with _|xs
    .rw [B] at e;exact bW (cH e.2) fun es hd e=>(bW (cH e) fun S hd2 e=>(cS (H.dict hd) fun U D g _=>(cS (H.dict hd2) fun NJ E p _=>(Dx D E g p (H.qh G (eD hd)) (H.qh G (eD hd2)) r e fun x y v u O P q=>(t n O P q).1))))
    .rw [B] at e;refine bW (cH e.2) fun ys J e=>(bY (ab.mp e) fun e1 e2=>?_)
     clear e n t G;obtain rfl:=bj.mp e1;clear e1 e;obtain rfl:=bj.mp e2;refine cw (H.list B) fun X T D g _=>(cw (H.list J) fun us V E p _=>?_)
     clear e2 J e H;obtain rfl:=g.nil_inv;clear g e;obtain rfl:=p.nil_inv;exact zS.Fu D E r
   exact⟨Ih.of_refs ne rc,rc⟩
  .rw [k] at e;have l:=(uj G d hb).of k;clear n r d hb t G H;obtain rfl:=(e:c=true);exact⟨l.eq A _ _ _,l.rc A _ _ _⟩
theorem zF(d:VR C Ω a v):OP (KO a) fun xs=>∃t c,v=.ref t/\IsTup Ω.h t (toArray c)/\de C Ω xs c:=by
 induction d with
 |tup xs c t e l s q=>exact(dJ t c ⟨rfl,e,l,q⟩)
 |_=>trivial
theorem eY:gn C dG:=fun F Ω σ a b v u n G H E hb=>.bif fun e=>by
 have o:F.A.units<cLine:=Nat.lt_of_le_of_lt (ag (aK _ _) H.room.units) (by decide);have fin:∀c:Bool,cW C F Ω σ (QV C) (.lf (.bool c)) (.bool c) Ω.s:=fun c=>.fF H (.lf _ _ (.bool c))
 rcases d:KO a with _|xs
 .rw [d] at e;refine bY (ab.mp e) fun N e=>?_
  subst N;refine bW (cH e) fun i hi e=>(bW (cH e) fun j T e=>(bY ((dZ E).of hi) fun g li=>?_))
  subst g;refine bY ((dZ hb).of T) fun g lj=>?_
  subst g;exact bW (cH (ab.mp e).2) fun xs V e=>(bW (cH e) fun ys O e=>(cw (H.list V) fun B Z m l _=>(cw (H.list O) fun us k2 X U _=>(bY (wi l U e fun x y v u d k q=>(So G H 19 (Nat.lt_of_le_of_lt (Nat.add_le_add_right (Nat.add_le_add_right (ag (aK _ _) H.room.units) 1) 19) (by decide):F.A.in1.units+19<cLine) d k q).1) fun z p=>((all_range B.toArray.size▸zS.DO m X z o p:zS C.prog C.w .NotEq F.A Ω.s (.ref (Ω.ρ i).1) (.ref (Ω.ρ j).1) (!true)) _ _ (fin false))))))
 .rw [d] at e;refine bW (cH e) fun ys k e=>(cw ((zF E).of d) fun t B g D m=>?_)
  clear H E;subst g;refine cw ((zF hb).of k) fun M us g i2 l=>?_
  clear hb;subst g;refine bY (wi m l e (P:=fun v u=>∀A,EqAt A Ω.s v u true) fun x y v u d k q=>by
   refine bW (cH q) fun c S h=>?_;clear q i2 l D m e fin o F;cases h
   exact fun A=>((uj G d k).of S).eq A _) fun z p=>?_
  have r:((List.range (min B.toArray.size us.toArray.size)).all (fun _=>true)&&B.toArray.size==us.toArray.size)=true:=by refine eL (all_range ..) (eL z (eL (bk ..) ?_));rfl
  clear d k l m z G;rcases n with⟨⟩
  .exact (r▸RcAt.tuples D i2 o fun j L J=>p j L J _:RcAt F.A Ω.s (.ref t) (.ref M) true) _ _ _ _ (fin true)
  .exact (r▸RcNeAt.tuples D i2 o fun j L J=>p j L J _:RcNeAt F.A Ω.s (.ref t) (.ref M) (!true)) _ _ _ _ (fin false)
end
end
noncomputable def sT(v:Value):Option Int:=match v with
 |.int i _=>some i
 |_=>none
noncomputable def sZ:List DictEntry->Option (List (Int×Value))
 |[]=>some []
 |e::r=>(sT e.key).bind fun i=>bif e.hash==hashInt i then(sZ r).map ((i,e.val)::·) else none
def tM(es:List DictEntry):Bool:=bif es.all fun e=>(sT e.key).isSome then dg (sZ es) (fun l=>decide (l.map (·.1)).Nodup) false else true
def qx(o:Obj):Bool:=match o.data with
 |.dict es _=>tM es.toList
 |_=>true
section
variable{h₀:Heap}{prog:Program}{w:World}{K:Frag}{t:Addr}
theorem lookup_mem{α:Type}{x:α}:∀ {l:List (Addr×α)},l.lookup a=some x->(a,x)∈l:=by
 intro l;induction l with
 |nil=>
  intro e;exact cX e
 |cons f l d=>
  obtain⟨b,y⟩:=f;intro e;rw [aY] at e;rcases hb:a==b with _|_
  .rw [hb] at e;exact .tail _ (d e)
  .rw [hb] at e;(injection e with c;subst c);exact eL (aC.mp hb) (.head _)
theorem nZ(e:sT v=some i):∃t,v=.int i t:=by
 induction v with
 |int j t=>(injection e with a;subst a);exact⟨t,rfl⟩
 |_=>exact cX e
theorem FD(x)(t):(intKind prog w).is x (.int x t)=true:=by exact if_pos rfl
theorem yI:∀ {es} {a:List (Int×Value)},sZ es=some a->Pairs (intKind prog w) es a/\∀e∈es,∃k,(intKind prog w).is k e.key=true/\e.hash=(intKind prog w).hash k:=by
 intro es;induction es with
 |nil=>
  intro a e
  (injection e with g;subst g);exact⟨.nil,fun _ h=>iS h⟩
 |cons x r n=>
  intro a e;refine bW (aM.mp e) fun i c e=>?_
  rcases b:x.hash==hashInt i with _|_
  .rw [b] at e;exact cX e
  .rw [b] at e;refine bW (aQ.mp e) fun l e1 d=>?_
   clear e;subst d;refine bY (n e1) fun o m=>(cN (nZ c) fun f c=>?_)
   have hi:(intKind prog w).is i x.key=true:=by exact eL c (FD i f)
   exact⟨.cons hi rfl o,fun y j=>(aU.mp j).elim (fun z=>z▸⟨i,hi,aC.mp b⟩) (m y)⟩
theorem Hc(a:x.key=.int i t)(b:kZ K x.val=none):eW K (x::r)=none:=by
 show(match x.key with |.int i _=>(match kZ K x.val with|some v=>(eW K r).map ((i,v)::·)|none=>none)|_=>none)=_;exact eL a (eL b rfl)
theorem DG(a:x.key=.int i t)(b:kZ K x.val=some v):eW K (x::r)=(eW K r).map ((i,v)::·):=by
 show(match x.key with |.int i _=>(match kZ K x.val with|some v=>(eW K r).map ((i,v)::·)|none=>none)|_=>none)=_;exact eL a (eL b rfl)
theorem BJ:∀ {es} {b} {l:List (Int×AV)},sZ es=some b->eW K es=some l->F2 (fun p q=>q.1=p.1/\kZ K p.2=some q.2) b l:=by
 intro es;induction es with
 |nil=>
  intro b l e q
  (injection e with f;subst f);(injection q with f;subst f);exact .nil
 |cons x r h=>
  intro b l e q;refine bW (aM.mp e) fun i a e=>(cN (nZ a) fun m a=>?_)
  rcases g:x.hash==hashInt i with _|_
  .rw [g] at e;exact cX e
  .rw [g] at e;refine bW (aQ.mp e) fun n e1 d=>?_
   clear e;subst d;clear e;cases c:kZ K x.val with
   |none=>exact cX ((Hc a c).symm.trans q)
   |some u=>
    have q:=(DG a c).symm.trans q;refine bW (aQ.mp q) fun k j d=>?_
    clear q a;subst d;exact .cons ⟨rfl,c⟩ (h e1 j)
theorem sk(h:F2 (fun p q=>q.1=p.1/\kZ K p.2=some q.2) c l)(k:Int):(valueAt c k).isSome=(l.lookup k).isSome/\∀av,l.lookup k=some av->∃v,valueAt c k=some v/\kZ K v=some av:=by
 induction h with
 |nil=>exact⟨rfl,fun _ h=>cX h⟩
 |@cons p q c l h _ d=>
  obtain⟨i,v⟩:=p;obtain⟨j,a⟩:=q;refine bY h ?_;clear h;intro e g;subst e;unfold valueAt at d ⊢;refine eL find?_cons (eL aY ?_);by_cases b:j=k
  .subst b;exact eL (bo rfl) (eL (bk ..) ⟨rfl,fun av h=>by(injection h with f;subst f);exact⟨v,rfl,g⟩⟩)
  .exact eL (bx b) (eL (aN.mpr (Ne.symm b)) d)
theorem Eg:∀ {es} {l:List (Int×AV)},eW K es=some l->(es.all fun e=>(sT e.key).isSome)=true:=by
 intro es;induction es with
 |nil=>
  intro _ _;exact rfl
 |cons x r f=>
  intro l e;obtain⟨g,xk,b⟩:=x;induction xk with
  |int i t=>
   rcases a:kZ K b with _|u
   .exact cX ((Hc rfl a).symm.trans e)
   .have e:=(DG rfl a).symm.trans e;refine bW (aQ.mp e) fun h d c=>?_
    clear e;subst c;exact(Bool.true_and _).trans (f d)
  |_=>exact cX e
noncomputable def uy(v:View):Bool:=match v with
 |.jR _=>true
 |_=>false
theorem vK(a:∀l,uy (f l)=false):uy (gq K f xs)=false:=by
 unfold gq;rcases nC K xs.toList with _|l
 .rfl
 .show uy (if l.length<=ik then f l else .no)=false;by_cases q:l.length<=ik
  .exact eL (if_pos q) (a l)
  .exact eL (if_neg q) rfl
theorem Jr(e:jI K t b sl=.jR es):sl = #[]/\eW K b.toList=some es/\(t==sysModules)=false:=by
 unfold jI at e;by_cases a:sl = #[]/\b.size<=ik/\(t==sysModules)=false
 .refine ⟨a.1,?_,a.2.2⟩;rw [if_pos a] at e;clear a;revert e;rcases fP K b.toList with _|l
  .rcases eW K b.toList with _|l
   .exact fun e=>jD (az uy e:false=true)
   .exact fun e=>by injection e with c;exact az some c
  .exact fun e=>jD (az uy e:false=true)
 .rw [if_neg a] at e;exact jD (az uy e:false=true)
theorem Cq{o:Obj}{es:List (Int×AV)}(e:zU K t o=.jR es):∃b d,o={ cls:=.type "dict",dict:=none,data:=.dict b d,slots:=#[] }/\eW K b.toList=some es/\(t==sysModules)=false:=by
 have e1:uy (zU K t o)=true:=eL e rfl;obtain⟨cls,dict,data,sl⟩:=o;induction data with
 |seq xs d=>
  have e1:uy (if cls=.type "tuple" then gq K .tup xs else if cls=.type "list" then gq K .list xs else .no)=true:=e1;clear e;by_cases a:cls=.type "tuple"
  .rw [if_pos a,vK fun _=>rfl] at e1;exact jD e1
  .rw [if_neg a] at e1;by_cases f:cls=.type "list"
   .rw [if_pos f,vK fun _=>rfl] at e1;exact jD e1
   .rw [if_neg f] at e1;exact jD e1
 |dict b d=>
  have e2:(if cls=.type "dict"/\dict=none then jI K t b sl else .no)=View.jR es:=e;clear e;by_cases a:cls=.type "dict"/\dict=none
  .rw [if_pos a] at e2;have q:=Jr e2;clear e2 e1;obtain⟨rfl,rfl⟩:=a;exact dJ b d ⟨q.1▸rfl,q.2⟩
  .rw [if_neg a] at e2;exact jD (az uy e2:false=true)
 |plain=>
  clear e;induction cls with
  |ref c=>rcases dict with⟨⟩<;>exact jD e1
  |_=>rcases dict with⟨⟩<;>exact jD e1
 |_=>exact jD e1
theorem Ko(X:K.In h₀)(ok:(K.all fun p=>qx p.2)=true){es:List (Int×AV)}(e:cM K t=.jR es):∃h,IntTab K h₀ prog w t es h:=by
 unfold cM at e;rcases ho:K.lookup t with _|o
 .rw [ho] at e;cases e
 .rw [ho] at e;refine cw (Cq e) fun b j g hi d=>?_
  subst g;have a:tM b.toList=true:=ak.mp ok _ (lookup_mem ho);unfold tM at a;rw [Eg hi] at a;refine bW (cH a) fun l c nd=>(bY (yI (prog:=prog) (w:=w) c) fun m i=>?_)
  have v:=BJ c hi;exact⟨l,d,⟨_,b,j,X _ _ ho,⟨rfl,rfl,rfl⟩,rfl,fun e f=>i e (Array.mem_toList_iff.mpr f),m,ax nd⟩,fun k=>(sk v k).1,fun k=>(sk v k).2⟩
noncomputable def Am(o:Option Value)(v:Value):Bool:=match o with
 |none=>false
 |some u=>match u with
  |.builtin a=>match v with
   |.builtin b=>a==b
   |_=>false
  |.type a=>match v with
   |.type b=>a==b
   |_=>false
  |_=>false
theorem yJ(h:Am o v=true):o=some v:=by
 rcases o with _|u
 .exact (aA h).elim
 .induction u with
  |builtin a=>cases v with
   |builtin b=>rw [aC.mp h]
   |_=>exact(aA h).elim
  |type a=>cases v with
   |type b=>rw [aC.mp h]
   |_=>exact(aA h).elim
  |_=>exact(aA h).elim
theorem Cj{β:Type}[BEq α][LawfulBEq α]{P:α×β->Bool}{v:β}:∀ {l:List (α×β)},l.all P=true->l.lookup x=some v->P (x,v)=true:=by
 intro l;induction l with
 |nil=>
  intro _ e;exact cX e
 |cons p l b=>
  intro h e;rw [all_cons,aW] at h;rw [aY] at e;rcases q:x==p.1 with _|_
  .rw [q] at e;exact b h.2 e
  .rw [q] at e;(injection e with a;subst a);exact eL (aC.mp q) h.1
theorem nX(e:sU.lookup x=some v):x≠"__name__"/\bootBuiltins x=some v:=by
 have h:=ab.mp (Cj (by decide+kernel:(sU.all fun p=>p.1 !=("__name__" : Str)&&Am (bootBuiltins p.1) p.2)=true) e);exact⟨bne_iff_ne.mp h.1,yJ h.2⟩
theorem Js{C:Ctx}{loose:List Str}{i:ExcName->Option Value}(T:Top p loose i mg mb C.h₀)(X:C.K.In C.h₀)(hi:importsNone p=true)(c:nsIn C.K cStatics sharingNotToldKey=some none)(ok:(C.K.all fun p=>qx p.2)=true)
  (g:∀f∈C.Φ,ew f.op (f.args.map C.cn)=some (C.cn f.res)):Good C:=by
 exact bW (T.nodigits) fun h a _=>(bW ((T.seer hi).mods) fun j d _=>(lQ d fun o es k ho _=>⟨X,T.nolimit,⟨h,a,ns_none_of X a c⟩,⟨o,ho⟩,⟨mb,T.b,fun x v e=>(T.builtins x (nX e).1).trans (nX e).2⟩,fun t es e=>Ko X ok e,g⟩))
end
structure Ga(C:Ctx)(Ω:Om)(obj:List AO):Prop where
 n:obj.length=Ω.n
 ob:∀i o,obj[i]?=some o->gz C Ω (Ω.ρ i).1 (Ω.ρ i).2 o
 inj:∀i j,i<Ω.n->j<Ω.n->i≠j->iU (Ω.ρ i) (Ω.ρ j)
 old:∀(b:Nat) o,C.h₀.get? b=some o->Ω.h.get? b=some o
 lo:∀i,i<Ω.n->C.h₀.get? (Ω.ρ i).1=none/\C.h₀.get? (Ω.ρ i).2=none
 hi:∀i,i<Ω.n->(∃o,Ω.h.get? (Ω.ρ i).1=some o)/\∃o,Ω.h.get? (Ω.ρ i).2=some o
section
variable{C:Ctx}{Ω:Om}{A:Around}{s:Shared}{d:Nat}{f:Addr}{p:FuncData×List Stmt}{ds args:List AV}{vs:List Value}{obj:List AO}
theorem Ga.enter(B:Ga C Ω obj)(g:Ω.s.toks<=t)(j:t≠0)(q:fW C Ω es l)(c:a.Ns Ω.h.objs.size (fun x=>l.lookup x))(k:∀b o,Ω.h.get? b=some o->a.get? b=some o)(sc)(d):
  Rel C Ω.h.objs.size (Ω.mv a t) ⟨sc,es,obj,d⟩:=
 have w:W Ω.h.objs.size Ω (Ω.mv a t):=W.grown g k;have past:=cK Ω.h (ah _)
 ⟨B.n,nh.of (q.mono fun _ _ z=>⟨z.1,z.2.mono w⟩) c,fun i o e=>(B.ob i o e).mono w.mo (k _) (k _),B.inj,fun i hi=>⟨(B.hi i hi).1.elim fun _ x=>(bX x past).symm,(B.hi i hi).2.elim fun _ x=>(bX x past).symm⟩,
  fun b o e=>k b o (B.old b o e),(match q:C.h₀.get? Ω.h.objs.size with|none=>rfl|some o=>cX (past.symm.trans (B.old _ o q))),B.lo,fun i hi=>⟨(B.hi i hi).1.imp fun _=>k _ _,(B.hi i hi).2.imp fun _=>k _ _⟩,j⟩
theorem Ga.code(B:Ga C Ω obj)(G:Good C)(hr:jL A (d+1))(n:fnAt C.K f=some p)(hg:p.1.scope.isGenerator=false)(hd:defsOf C.K p.1.defaults=some ds)(m:de C Ω args vs){bs:List (Str×AV)}(hb:mw (p.1.params.args.map (·.arg)) ds args []=some bs)(j:Ω.s.toks+bs.length≠0)
  (body:∀F cb,Hr C F cb ⟨p.1.scope,bs.reverse,obj,d⟩->Ω.h.get? F.L=none->W F.L Ω cb->wpAny C.M F.A (execs p.2 F.env) (fun fl s'=>Z (wD fl) s') no cb.s):codeAny C.M A (.call (.ref f) ⟨vs,[]⟩) (Back Z) Ω.s:=by
 have b:=(pe f).of n;refine bW b.1 fun o ho k=>?_
 have g:=b.2;have ok:=b.3;clear b;refine bW ((nz G B.old p.1.defaults).of hd) fun bT l r=>(bW ((ng (ns:=[]) r m (de.nil)).of hb) fun binds e1 e2=>?_)
 have Y:=qg ok;have X:C.K.In Ω.h:=fun a o e=>B.old _ _ (G.lI _ _ e)
 exact codeAny_call_def (Nat.lt_of_le_of_lt (ag (aK _ _) hr.depth) (by decide)) (X _ _ ho) k (G.lim.keeps B.old) (codeRec_of X Y.code) g (qb Y.ps l e1) Y.cells (fun x t=>(bW (bL.mp (jO e1 x t)) fun q hp z=>(z▸Y.locs q hp))) (fun v i c=>(bu (body ⟨A.deeper (callEnv p.1 Ω.h.objs.size f),callEnv p.1 Ω.h.objs.size f,Ω.h.objs.size⟩ _ ⟨(B.enter (aK _ _) (e2.len▸j) (F2.reverse e2) i c p.1.scope d),hr.deeper _,⟨rfl,Y.kind,rfl,Y.gl,Y.bl⟩⟩ (cK _ (ah _)) (W.grown (aK _ _) c)) (fun u s' z=>z) fun _ _ x=>x.elim)) Y.co hg Y.kind
end
noncomputable def bQ.sub(θ:Nat->bQ)(x:bQ):bQ:=match x with
 |.sym k=>θ k
 |x=>x
mutual
noncomputable def AV.sub(θ:Nat->bQ):AV->AV
 |.lf x=>.lf (x.sub θ)
 |.tup xs=>.tup (subs θ xs)
 |.cv f x=>.cv f (x.sub θ)
 |.obj i=>.obj i
 |.top v=>.top v
noncomputable def subs(θ:Nat->bQ):List AV->List AV
 |[]=>[]
 |x::xs=>x.sub θ::subs θ xs
end
section
variable{C:Ctx}
noncomputable abbrev Ctx.sy(C:Ctx)(θ:Nat->bQ)(Φ:List Fact):Ctx:=⟨C.K,C.h₀,C.prog,C.w,θ,Φ⟩
theorem cP(xs):subs θ xs=xs.map (AV.sub θ):=by
 induction xs with
 |nil=>rfl
 |cons x xs a=>show x.sub θ::subs θ xs=_;refine eL a ?_;rfl
theorem yF:(C.sy θ Φ).cn y=y.sub θ:=by rcases y with⟨⟩<;>rfl
theorem VR.out(r:VR (C.sy θ Φ) Ω x v):VR C Ω (x.sub θ) v:=by
 induction r with
 |lf x v q=>exact .lf _ _ (LR.cn (yF▸q))
 |tup xs j a e l s _ b=>
  show VR C Ω (.tup (subs θ xs)) _;refine eL (cP ..) (.tup _ j a e (eL (aj ..) l) (eL (aj ..) s) fun i y u c d=>(bW (aQ.mp (eR aH c)) fun x h g=>?_));clear c e l s q;subst g;exact b i x u h d
 |cv f a x v e _ b=>exact .cv f a _ v e b
 |obj i hi=>exact .obj i hi
 |top v=>exact .top v
theorem VR.into(c:∀k,isLit (θ k)=true)(r:VR C Ω y v):∀ {x},y=x.sub θ->VR (C.sy θ Φ) Ω x v:=by
 induction r with
 |lf l v q=>
  intro x e;cases x with
  |lf x=>
   (injection (e:AV.lf l=AV.lf (x.sub θ)) with b;subst b)
   refine .lf _ _ (yF▸?_);have h:C.cn (x.sub θ)=x.sub θ:=by
    clear q;induction x with
    |sym k=>exact FL (c k)
    |_=>rfl
   exact h▸q
  |tup xs=>exact(AV.noConfusion (e))
  |cv f x=>exact(AV.noConfusion (e))
  |_=>exact AV.noConfusion e
 |tup ys p a e l s _ d=>
  intro x z;clear q c;cases x with
  |tup xs=>
   (injection (z:AV.tup ys=AV.tup (subs θ xs)) with b;subst b)
   rw [cP] at l s d;rw [aj] at l s;exact .tup xs p a e l s fun i x u n m=>d i (x.sub θ) u (by refine eL aH (eL n ?_);rfl) m rfl
  |lf x=>exact(AV.noConfusion (z))
  |cv f x=>exact(AV.noConfusion (z))
  |_=>exact AV.noConfusion z
 |cv f a y v e _ d=>
  intro x z;clear q c;cases x with
  |cv g x=>
   injection (z:AV.cv f y=AV.cv g (x.sub θ)) with o t
   subst o;exact .cv f a x v e (d t)
  |lf x=>exact(AV.noConfusion (z))
  |tup xs=>exact(AV.noConfusion (z))
  |_=>exact AV.noConfusion z
 |obj i hi=>
  intro x z;clear y c;rcases x with x|xs|⟨f,x⟩|j|u
  .exact (AV.noConfusion (z))
  .exact (AV.noConfusion (z))
  .exact (AV.noConfusion (z))
  .have z:=z;(injection z with b;subst b);exact .obj i hi
  .exact (AV.noConfusion (z))
 |top u=>
  intro x z;clear y c;rcases x with x|xs|⟨f,x⟩|i|w
  .exact (AV.noConfusion (z))
  .exact (AV.noConfusion (z))
  .exact (AV.noConfusion (z))
  .exact (AV.noConfusion (z))
  .have z:=z;(injection z with b;subst b);exact .top u
end
def cY(θ:Nat->bQ)(es:List (Str×AV)):List (Str×AV):=es.map fun p=>(p.1,p.2.sub θ)
def AO.sub(θ:Nat->bQ)(o:AO):AO:=match o with
 |.list xs=>.list (subs θ xs)
 |.dict es=>.dict (cY θ es)
 |.inst c as=>.inst c (cY θ as)
 |.dy o xs=>.dy o (subs θ xs)
 |.fK xs k zs=>.list (subs θ xs++(kD (θ k)++subs θ zs))
def St.sub(θ:Nat->bQ)(σ:St):St:=⟨σ.sc,cY θ σ.loc,σ.obj.map (AO.sub θ),σ.dep⟩
section
variable{C:Ctx}{Ω:Om}{θ:Nat->bQ}{Φ:List Fact}{L:Nat}{σ:St}
theorem mh(x)(l):(cY θ l).lookup x=(l.lookup x).map (AV.sub θ):=by
 induction l with
 |nil=>rfl
 |cons p l a=>
  show List.lookup x ((p.1,p.2.sub θ)::cY θ l)=_;refine eL aY (eL aY ?_);rcases x==p.1 with _|_
  .exact a
  .rfl
theorem de.out(r:de (C.sy θ Φ) Ω xs e):de C Ω (subs θ xs) e:=by
 refine eL (cP ..) ⟨by exact eL (aj ..) r.len,fun i y u a d=>(bW (aQ.mp (eR aH a)) fun x b c=>?_)⟩;clear a;subst c;exact(r.at_ i x u b d).out
theorem de.into(c:∀k,isLit (θ k)=true)(r:de C Ω (subs θ xs) d):de (C.sy θ Φ) Ω xs d:=by
 rw [cP] at r;exact⟨by have:=r.len;rw [aj] at this;exact this,fun i x u a b=>(r.at_ i (x.sub θ) u (by refine eL aH (eL a ?_);rfl) b).into c rfl⟩
theorem uB:subs θ (xs++(kD l++zs))=subs θ xs++(kD l++subs θ zs):=by
 rw [cP,cP,cP,aO,aO,Bc fun _=>rfl]
theorem gz.out(r:gz (C.sy θ Φ) Ω a d o):gz C Ω a d (o.sub θ):=by
 rcases o with xs|es|⟨c,as⟩|⟨o,xs⟩|⟨xs,i,zs⟩
 .refine cw r fun b k e q l=>?_;exact(dJ b k ⟨e,q.out,eL (cP ..) (eL (aj ..) l)⟩)
 .refine cS r fun j e q l=>?_;exact⟨j,e,F2.Wj q fun _ _ z=>⟨z.1,z.2.out⟩,by exact eL (aj ..) l⟩
 ·(refine fq r fun ne e f=>?_;refine cw f fun g k h q l=>?_);exact⟨ne,e,g,k,h,F2.Wj q fun _ _ z=>⟨z.1,z.2.out⟩,by exact eL (aj ..) l⟩
 ·(refine bY r fun e f=>?_;refine cS f fun b k q l=>?_);exact⟨e,b,k,q.out,eL (cP ..) (eL (aj ..) l)⟩
 .refine cw r fun b n e q l=>?_;exact(dJ b n ⟨e,uB▸q.out,eR uB (eL (cP ..) (eL (aj ..) l))⟩)
theorem gz.into(b:∀k,isLit (θ k)=true)(r:gz C Ω a d (o.sub θ)):gz (C.sy θ Φ) Ω a d o:=by
 rcases o with xs|es|⟨c,as⟩|⟨o,xs⟩|⟨xs,i,zs⟩
 .refine cw r fun f k e q l=>?_;exact(dJ f k ⟨e,q.into b,by rw [cP,aj] at l;exact l⟩)
 .refine cS r fun m e q l=>?_;exact⟨m,e,F2.AK (fun _ _ z=>⟨z.1,z.2.into b rfl⟩) q,by unfold cY at l;rw [aj] at l;exact l⟩
 ·(refine fq r fun ne e g=>?_;refine cw g fun h k j q l=>?_);exact⟨ne,e,h,k,j,F2.AK (fun _ _ z=>⟨z.1,z.2.into b rfl⟩) q,by unfold cY at l;rw [aj] at l;exact l⟩
 ·(refine bY r fun e g=>?_;refine cS g fun f k q l=>?_);exact⟨e,f,k,q.into b,by rw [cP,aj] at l;exact l⟩
 .refine cw ((r)) fun f n e q l=>?_;rw [<-uB] at q l
  exact dJ f n ⟨e,q.into b,(eR (aj ..) (eR (cP ..) l))⟩
theorem Rel.out(r:Rel (C.sy θ Φ) L Ω σ):Rel C L Ω (σ.sub θ):=by
 refine cS (r.fr) fun m c a b=>⟨by exact eL (aj ..) r.n,⟨m,c,fun x av e=>?_,fun x e=>(b x (map_eq_none_iff.mp ((mh x σ.loc).symm.trans e)))⟩,fun i o e=>?_,r.inj,r.eu,r.old,r.uK,r.lo,r.hi,r.toks⟩
 .refine bW (aQ.mp ((mh x σ.loc).symm.trans e)) fun y f d=>?_;clear e c b r;subst d
  exact(a x y f).imp fun _ z=>⟨z.1,z.2.out⟩
 .refine bW (aQ.mp (eR aH (e:(σ.obj.map (AO.sub θ))[i]?=some o))) fun o' ho d=>?_;clear e c a b;subst d
  exact(r.ob i o' ho).out
theorem Rel.into(c:∀k,isLit (θ k)=true)(r:Rel C L Ω (σ.sub θ)):Rel (C.sy θ Φ) L Ω σ:=by
 exact cS (r.fr) fun m d a b=>⟨by have:=r.n;rw [show(σ.sub θ).obj=σ.obj.map (AO.sub θ) from rfl,aj] at this;exact this,⟨m,d,fun x av e=>((a x (av.sub θ) ((mh x σ.loc).trans (by refine eL e ?_;rfl))).imp fun _ z=>⟨z.1,z.2.into c rfl⟩),fun x e=>(b x ((mh x σ.loc).trans (by refine eL e ?_;rfl)))⟩,fun i o e=>((r.ob i (o.sub θ) (by refine eL aH (eL e ?_);rfl)).into c),r.inj,r.eu,r.old,r.uK,r.lo,r.hi,r.toks⟩
end
def Fl.sub(θ:Nat->bQ)(f:Fl):Fl:=match f with
 |.ret v=>.ret (v.sub θ)
 |f=>f
def Facts(θ:Nat->bQ)(Φ:List Fact):Prop:=∀f∈Φ,ew f.op (f.args.map (bQ.sub θ))=some (f.res.sub θ)
section
variable{C:Ctx}{F:Fm}{Ω:Om}{θ:Nat->bQ}{Φ:List Fact}{σ τ:St}{N:Nat}{Es:List Ent}
theorem Good.sy(G:Good C)(a:Facts θ Φ):Good (C.sy θ Φ):=
 ⟨G.lI,G.lim,G.nb,G.sys,G.bn,G.tab,fun f h=>by
  exact eL (funext fun _=>yF:(C.sy θ Φ).cn=bQ.sub θ) (a f h)⟩
theorem mX.out(q:mX (C.sy θ Φ) Ω f g):mX C Ω (f.sub θ) g:=by
 induction q with
 |next=>exact .next
 |brk=>exact .brk
 |cont=>exact .cont
 |ret a v q=>exact .ret _ v q.out
theorem mX.into(b:∀k,isLit (θ k)=true)(q:mX C Ω (f.sub θ) g):mX (C.sy θ Φ) Ω f g:=by
 rcases f with _|_|_|a
 .have q:=q;refine q.jk ?_;exact .next
 .have q:=q;refine q.brkE ?_;exact .brk
 .have q:=q;refine q.wg ?_;exact .cont
 .have q:=q;cases q with
  |ret _ v r=>exact .ret _ v (VR.into b r rfl)
theorem Hr.into(a:∀k,isLit (θ k)=true)(H:Hr C F Ω (σ.sub θ)):Hr (C.sy θ Φ) F Ω σ:=⟨H.rel.into a,H.room,H.env⟩
theorem Hr.out(H:Hr (C.sy θ Φ) F Ω σ):Hr C F Ω (σ.sub θ):=⟨H.rel.out,H.room,H.env⟩
abbrev fk(K:Frag)(Φ:List Fact)(Es:List Ent)(N:Nat):Rc:=Rc.iter K Φ Es dG (lU Φ) N
def dz(C:Ctx)(b:List Stmt)(σ:St)(fl:Fl)(τ:St):Prop:=∀F Ω,Hr C F Ω σ->wpAny C.M F.A (execs b F.env) (cW C F Ω τ (QF C) fl) no Ω.s
def iD(C:Ctx)(x:Expr)(σ:St)(a:AV)(τ:St):Prop:=∀F Ω,Hr C F Ω σ->wpAny C.M F.A (eval x F.env) (cW C F Ω τ (QV C) a) no Ω.s
def fx(C:Ctx)(x:Expr)(σ:St)(c:Bool)(τ:St):Prop:=∀F Ω,Hr C F Ω σ->wpAny C.M F.A (isTrue x F.env (eval x F.env)) (cW C F Ω τ QB c) no Ω.s
structure Sy(C:Ctx)(θ:Nat->bQ)(Φ:List Fact)(Es:List Ent):Prop where
 lit:∀k,isLit (θ k)=true
 facts:Facts θ Φ
 ents:dT (C.sy θ Φ) Es
theorem um(G:Good C)(S:Sy C θ Φ Es):cD (C.sy θ Φ) (fk C.K Φ Es N):=gU (G.sy S.facts) S.ents eY (jf (G.sy S.facts)) N
theorem dY(G:Good C)(S:Sy C θ Φ Es)(e:(fk C.K Φ Es N).fL b σ=some (fl,τ)):dz C b (σ.sub θ) (fl.sub θ) (τ.sub θ):=fun F Ω H=>
 wp_mono (((um G S).fL F Ω b Ω .refl σ (H.into S.lit)).of e) fun f s' z=>by
  exact dW z fun a c d q e=>⟨a,c,d.out,q.out,e⟩
theorem tX(G:Good C)(S:Sy C θ Φ Es)(e:(fk C.K Φ Es N).ev x σ=some (a,τ)):iD C x (σ.sub θ) (a.sub θ) (τ.sub θ):=fun F Ω H=>
 wp_mono (((um G S).ev F Ω x Ω .refl σ (H.into S.lit)).of e) fun f s' z=>by
  exact dW z fun b c d q e=>⟨b,c,d.out,q.out,e⟩
theorem tw(G:Good C)(S:Sy C θ Φ Es)(e:(fk C.K Φ Es N).gO x σ=some (c,τ)):fx C x (σ.sub θ) c (τ.sub θ):=fun F Ω H=>
 wp_mono (((um G S).gO F Ω x Ω .refl σ (H.into S.lit)).of e) fun f s' z=>by
  exact dW z fun a b d q e=>⟨a,b,d.out,q,e⟩
theorem PE.into(b:∀k,isLit (θ k)=true){c:Om}(p:PE C L Ω c (dm.map (AO.sub θ)) (f.sub θ) a):PE (C.sy θ Φ) L Ω c dm f a:=
 ⟨p.w,fun i o e=>(p.ob i (o.sub θ) (by refine eL aH (eL e ?_);rfl)).into b,p.old,p.toks,p.fl.into b⟩
theorem fR.of(c:∀k,isLit (θ k)=true)(a:e.args=none)(b:e.MD=true)(h:∀p,fnAt C.K e.f=some p->cG C p.2 (St.sub θ ⟨p.1.scope,e.loc,e.obj,e.dep⟩) (e.fl.sub θ) (e.dm.map (AO.sub θ))):fR (C.sy θ Φ) e:=
 ⟨fun _=>⟨b,fun p hp F Ω H=>wp_mono (h p hp F Ω H.out) fun _ _ z=>z.imp fun _ q=>⟨q.1.into c,q.2⟩⟩,fun _ _ z=>cX (a.symm.trans z)⟩
theorem fR.z3(c:∀k,isLit (θ k)=true)(d:e.args=some as)(hr:rA e.fl=some a)(h:pd C e.f e.dep (subs θ as) (a.sub θ)):fR (C.sy θ Φ) e:=
 ⟨fun z=>(Cm (d.symm.trans z)),fun o p l n F Ω σ A m H hd r=>by
  (injection (d.symm.trans l) with b;subst b)
  (injection (hr.symm.trans n) with b;subst b)
  refine codeAny_mono (h F Ω (St.sub θ σ) A m H.out hd r.out) fun q s' z=>?_;rcases q with _|f
  .exact z
  .induction f with
   |ret v=>
    exact dW z fun i j g q e=>⟨i,j,g.into c,VR.into c q rfl,e⟩
   |_=>exact z⟩
theorem dz.Xf(h:dz C b σ fl τ)(ho:∀(i:Nat) (o:AO),dm[i]?=some o->τ.obj[i]?=some o):cG C b σ fl dm:=fun F Ω H=>wp_mono (h F Ω H) fun _ _ p=>by
 exact dW p fun a w H' q e=>⟨a,⟨w,fun i o z=>H'.rel.ob i o (ho i o z),H'.rel.old,H'.rel.toks,q⟩,e⟩
end
section
open PySem.W.X
section
variable
 {K:Flow->Sem Fin} {gd:Bool->Bool}
theorem qu{α:Type}{m:Sem α}{K:α->Sem Fin}(h:wpAny (model prog w) (A.over c b) m (fun a s'=>SegX (model prog w) A c (K a) b s' P) (fun _ _=>False) s):SegX (model prog w) A c (m.wrap K H gd lv) b s P:=by
 rintro g p rfl i
 exact eF (runs_wrap_of_wp K H gd lv m (h (g.over b) p (i.over b)) (fun a f s' d=>d g f rfl i) (fun x f s' d=>d.elim)) fun e s' hr j=>(dJ e s' ⟨hr,j⟩)
theorem x_at{b:Pos}{k:Unit->Sem Fin}(h:SegX (model prog w) A c (k ()) a s P):SegX (model prog w) A c (.at b k) a s P:=
 qu (K:=k) (H:=.raise) (gd:=id) (lv:=id) (wpAny_standAt h)
theorem x_point{l:List Value}{k:Unit->Sem Fin}(h:SegX (model prog w) A c (k ()) a s P):SegX (model prog w) A c (.point l k) a s P:=
 qu (K:=k) (H:=.raise) (gd:=id) (lv:=fun _=>l) (wpAny_point h)
set_option backward.match.sparseCases true in
theorem fV{st:Stmt}
  (h:SegX (model prog w) A c ((exec st env).wrap (fun f=>match f with |.next=>(execs rest env).wrap K H gd lv|f=>K f) H gd lv) a s P):
  SegX (model prog w) A c ((execs (st::rest) env).wrap K H gd lv) a s P:=by exact eL (execs_cons_wrap ..) h
set_option backward.match.sparseCases true in
theorem uA{e:Expr}{b pos:Pos}(d:splitAtGen a=none)(j:gd false=false)(f:a.any Frame.guarded=false)
  (h:wpAny (model prog w) (A.over c a) (eval e env) (fun v s'=>∀l k p,k (.send .none)=K .next->P (.susp v false l k c p a) s') (fun _ _=>False) s) (i:env.scope.isCoroutine=false) (hi:interactive env=false):
  SegX (model prog w) A c ((exec (.Expr (.Yield (some e) b) pos) env).wrap K H gd lv) a s P:=by
 refine eL (exec_Expr env _ pos hi rfl) ?_;show SegX (model prog w) A c (.at pos fun _=>((eval e env>>=fun v=>(standAt b>>=fun _=>yieldOut env v))>>=fun x=>
  dropValue (.Yield (some e) b) pos x).wrap K H gd lv) a s P
 simp only [(fun v=>by simp only [yieldOut,i,Bool.false_eq_true,if_false]:∀v,yieldOut env v=yieldValue v)];refine x_at (eL (Sem.bind_eq_wrap' ..) (eL (Sem.bind_eq_wrap' ..) (eL (Sem.wrap_wrap ..) (eL (Sem.wrap_wrap ..) (qu (bu h (fun v s' n=>(x_at ?_)) fun _ _ x=>x))))));have key:∀g l (k:Resume->Sem Fin),g=false->k (.send .none)=K .next->SegX (model prog w) A c (.yield v g l k) a s' P:=fun g l k hg m=>by
  subst hg;exact s_yield prog w A c a P s' v l k d f fun p=>n l k p m
 exact key _ _ _ j rfl
set_option backward.match.sparseCases true in
noncomputable abbrev RK(env:Env)(K:Flow->Sem Fin)(H:Value->Sem Fin)(gd:Bool->Bool)(lv:List Value->List Value):Result->Sem Fin:=fun r=>((match r with |.ok f=>(.pure f:Sem Flow)|.error e=>.raise e).onRaise fun x=>do
    if(<-field x 1)==Value.none then unsupported "frame.own-activation:exception-without-traceback"
    setFlight x env.frame).wrap K H gd lv
theorem tD{test:Expr}{body orelse:List Stmt}
  (h:∀p,SegX (model prog w) A (.whileLoop test body orelse env) (denote table (.whileLoop test body orelse env)) (.ret (RK env K H gd lv) none (gd false) (lv []) c p []::a) s P):
  SegX (model prog w) A c ((exec (.While test body orelse pos) env).wrap K H gd lv) a s P:=
 x_at (s_call prog w A c a P s _ _ _ _ _ h)
set_option backward.match.sparseCases true in
noncomputable abbrev rz(env:Env):Value->Sem Fin:=fun e=>(do noteFrame e env;theTreesLotGoes e:Sem Unit).wrap (fun _=>.raise e) .raise id id
set_option backward.match.sparseCases true in
noncomputable abbrev rx(test:Expr)(body orelse:List Stmt)(env:Env):Flow->Sem Fin:=fun f=>match f with
      |.next |.cont=>.pure (.again (.whileLoop test body orelse env))
      |.brk=>.pure (.done .next)
      |.ret v=>.pure (.done (.ret v))
theorem og{test:Expr}{body orelse:List Stmt}
  (h:wpAny (model prog w) (A.over (.whileLoop test body orelse env) a) (isTrue test env (eval test env)) (fun b s'=>
    if b=true then SegX (model prog w) A (.whileLoop test body orelse env) ((execs body env).wrap (rx test body orelse env) (rz env) id id) a s' P
    else SegX (model prog w) A (.whileLoop test body orelse env) ((execs orelse env).wrap (fun f=>.pure (.done f)) (rz env) id id) a s' P)
   (fun _ _=>False) s):
  SegX (model prog w) A (.whileLoop test body orelse env) (denote table (.whileLoop test body orelse env)) a s P:=by
 show SegX _ A _ ((whileTurn test body orelse env).onRaise (fun x=>do noteFrame x env;theTreesLotGoes x)) a s P;unfold whileTurn;refine eL (Sem.onRaise_eq_wrap ..) (eL (Sem.bind_eq_wrap' ..) (eL (Sem.wrap_wrap ..) (qu (bu h (fun b s' hb=>?_) fun x s' c=>c))));rcases b with _|_
 .rw [if_neg aA] at hb;show SegX _ A _ (Sem.wrap _ _ _ _ (if false=true then _ else _)) a s' P;refine eL (if_neg aA) (eL (Sem.bind_eq_wrap' ..) (eL (Sem.wrap_wrap ..) ?_));rw [Sem.wrap_congr (execs orelse env) _ _
   (fun f=>by rfl)
   (fun e=>by first|exact Sem.bind_eq_wrap _ _|(show(do noteFrame e env;theTreesLotGoes e:Sem Unit).bind (fun _=>.raise e)=_;rw [Sem.bind_eq_wrap]))]
  exact hb
 .rw [if_pos rfl] at hb;show SegX _ A _ (Sem.wrap _ _ _ _ (if true=true then _ else _)) a s' P;refine eL (if_pos rfl) (eL (Sem.bind_eq_wrap' ..) (eL (Sem.wrap_wrap ..) ?_));rw [Sem.wrap_congr (execs body env) _ _ (K':=rx test body orelse env)
   (fun f=>by rcases f with⟨⟩<;>rfl)
   (fun e=>by first|exact Sem.bind_eq_wrap _ _|(show(do noteFrame e env;theTreesLotGoes e:Sem Unit).bind (fun _=>.raise e)=_;rw [Sem.bind_eq_wrap]))]
  exact hb
set_option backward.match.sparseCases true in
noncomputable abbrev zB:Flow->Sem Fin:=fun f=>.pure (.done (.ret (match f with |.ret v=>v|_=>.none)))
noncomputable abbrev zM(env:Env):Value->Sem Fin:=fun e=>(leaving env e).wrap (fun _=>.raise e) .raise id id
theorem RH{body:List Stmt}
  (h:SegX (model prog w) A (.func body env) ((execs body env).wrap zB (zM env) id id) a s P):
  SegX (model prog w) A (.func body env) (denote table (.func body env)) a s P:=by
 show SegX _ A _ (.point [] fun _=>((execs body env).onRaise (leaving env))>>=_) a s P;refine x_point (eL (Sem.onRaise_eq_wrap ..) (eL (Sem.bind_eq_wrap' ..) (eL (Sem.wrap_wrap ..) ?_)));rw [Sem.wrap_congr (execs body env) _ _ (K':=zB) (H':=zM env) (fun f=>by rcases f with⟨⟩<;>rfl)
  (fun e=>by refine eL (Sem.bind_eq_wrap ..) (eL (Sem.wrap_wrap ..) ?_);rfl)]
 exact h
end
end
section
open PySem.W.X
theorem gv.setGen(a:gv s₀ s)(h:s₀.gens.size<=g)(x)(c:x.bare=true):gv s₀ (s.setGen g x):=by
 have key:(s.gens.setIfInBounds g x).toList.take s₀.gens.size=s₀.gens.toList:=by
  exact eL Array.toList_setIfInBounds (eL (List.take_set_of_le h) a.gens)
 refine⟨key,?_,a.drawn,a.os,a.toks⟩;show(s.gens.setIfInBounds g x).toList.all GenState.bare=_;have hb:=a.bare;clear a h;rcases q:s₀.gens.toList.all GenState.bare with _|_
 .rw [List.all_eq_false] at q ⊢;exact bW q fun y b e=>⟨y,List.mem_of_mem_take (key▸b),e⟩
 .rw [q] at hb;rw [Array.toList_setIfInBounds,ak];intro y b;clear key;rcases List.mem_or_eq_of_mem_set b with d|rfl
  .exact ak.mp hb y d
  .exact c
section
theorem uY(x:SegX M A c t f s P):SegX M A c t f s (fun e s'=>e.quiet=true/\P e s'):=fun g p i h=>by
 exact cw (x g p i h) fun e s' a b d=>(dJ e s' ⟨a,b,b,d⟩)
def Dl(Q:Option Value->Shared->Prop)(g:Nat)(e:End)(s₁:Shared):Prop:=
 (e=.ret (.ok (.ret .none))/\∀a,(∀b o,s₁.heap.get? b=some o->a.get? b=some o)->Q none { s₁.setGen g .finished with heap:=a })\/
 (∃v lv k c p d,e=.susp v false lv k c p d/\(e.genState.bare=true->Q (some v) (s₁.setGen g e.genState)))
theorem JW{P:GenStatus->Prop}{G:Prop}(a:(∀st,P st)->G)(b:∀st,P st):G:=a b
theorem wt{a:Addr}{g:Nat}(D:A.handled=none)
  (y:s.heap.NoLimit) (t:A.depth<recursionLimit) (hg:s.heap.IsGen a g) (u:s.gens[g]?=some gs)
  (z:(gs=.fresh c₀/\t₀=denote table c₀/\d=[])\/(∃f j i cl,gs=.suspended f j c₀ i d cl/\t₀=f (.send .none)))
  (x:SegX (model prog w) A.in1 c₀ t₀ d (s.setGen g .running) (Dl Q g)):
  wpAny (model prog w) A (pyNext (.ref a)) Q E s:=by
 refine ai (wpAny_attempt (wpAny_callSpecial?_slot hg.typeIs slot_gen_next
  (wpAny_call_entry slot_gen_next hg.typeIs entry_gen_next ?_ (args_gen_next _))))
 show wpAny _ _ (Builtin.Generator.genWake (.ref a) (.send .none)) _ _ s;refine ai (bK (wpAny_genNumber hg (ai (wpAny_genState u ?_))));have go:∀ {α} {k} {q:α->Shared->Prop} {n},(∀e s₁,e.genState.bare=true->Dl Q g e s₁->wpAny (model prog w) A.in1 (k e.result) q n (s₁.setGen g e.genState))->wpAny (model prog w) A.in1 (.resume g (.send .none) [] k) q n s:=by
  intro α k q n F;have:=wake_any α prog w (l:=[]) u (by
   rcases z with⟨rfl,rfl,rfl⟩|⟨f,j,i,cl,rfl,rfl⟩
   .exact .inl ⟨rfl,rfl,rfl,rfl⟩
   .exact .inr (oP f j i cl ⟨rfl,rfl⟩)) (fun r=>r.In A.in1) (fun _ h=>h) ((uY x).mono fun e s₁ h r p G=>F e s₁ (End.bare_of_quiet h.1) h.2 r p G)
  exact this
 apply JW
 .intro fin;refine z.elim (fun h=>eL h.1 (ai (wpAny_roomToWake y t ?_))) fun h=>h.elim fun f h=>h.elim fun j h=>h.elim fun i h=>h.elim fun cl h=>eL h.1 (ai (wpAny_roomToWake y t ?_))
  .generalize (GenState.fresh c₀).status=st;exact fin st
  .generalize (GenState.suspended f j c₀ i d cl).status=st;exact fin st
 .intro st;refine go fun e s₁ B C=>?_
  rcases C with⟨rfl,m⟩|⟨v,lv,k,c,p,H,rfl,m⟩
  .show wpAny _ _ (newExc (.type "StopIteration") []>>=_) _ _ _;refine ai (ai (wpAny_newObj_type ?_ (by size_fits)));refine ai (wpAny_of_eq (by first|rfl|(simp only [firstArgMember];rfl)) ?_);refine wpAny_newObj_type (ai (ai (wpAny_handled (eL (D) (wpAny_throw (ai (wpAny_isInstance ⟨_,bp _ rfl,rfl⟩ isSubtype_stop ?_))))))) (by size_fits);exact aL (m _ fun b o hb=>aP _ (aP _ hb))
  .exact aL ⟨v,rfl,aL (m B)⟩
end
end
section
open PySem.W.X
structure Ls where
 Dm:Scope
 UA:Scope
 d:Nat
 t:Expr
 c1:Expr
 e1:Expr
 c2:Expr
 e2:Expr
 y4:Pos
 C5:Pos
 u5:Pos
 F5:Pos
 w6:Pos
 A7:Pos
 pw:Pos
 US:Stmt
 y:Str
 py:Pos
 body:List Stmt
 nb:Nat
structure Lp extends Ls where
 A:Around
 eU:Env
 LU:Nat
 eG:Env
 LG:Nat
 aG:Nat
 g:Nat
 dX:Om
noncomputable abbrev Ls.b1(X:Ls):List Stmt:=[.Expr (.Yield (some X.e1) X.y4) X.C5]
noncomputable abbrev Ls.b2(X:Ls):List Stmt:=[.Expr (.Yield (some X.e2) X.F5) X.w6]
abbrev Ls.l(X:Ls):List Stmt:=[.While X.c1 X.b1 [] X.u5,.While X.c2 X.b2 [] X.A7]
abbrev Ls.fn(X:Ls):List Stmt:=[X.US,.While X.t X.l [] X.pw]
noncomputable abbrev Ls.sg(X:Ls)(gl:List (Str×AV))(obj:List AO):St:=⟨X.UA,gl,obj,X.d⟩
noncomputable abbrev Ls.su(X:Ls)(loc:List (Str×AV))(obj:List AO):St:=⟨X.Dm,loc,obj,X.d+3⟩
noncomputable abbrev Lp.fU(X:Lp):Fm:=⟨X.A,X.eU,X.LU⟩
def Nv(C:Ctx)(Ω:Om)(M:Nat)(q:Str->Prop)(loc:List (Str×AV)):Prop:=
 ∃m,Ω.h.Ns M m/\(∀x av,q x->loc.lookup x=some av->∃v,m x=some v/\VR C Ω av v)/\∀x,q x->loc.lookup x=none->m x=none
def known(X:Ls)(kn:Bool)(x:Str):Prop:=x=X.y->kn=true
structure Gw(C:Ctx)(X:Lp)(kn:Bool)(loc gl:List (Str×AV))(obj:List AO)(Ω:Om):Prop where
 rel:Rel C X.LG Ω (X.sg gl obj)
 fu:Nv C Ω X.LU (known X.toLs kn) loc
 su:dq C X.LG Ω X.LU
 sa:dq C X.LG Ω X.aG
 ne:X.aG≠X.LU
 gen:Ω.h.IsGen X.aG X.g
 base:W X.LU X.dX Ω
 gs:X.g<Ω.s.gens.size
structure qJ(X:Lp):Prop where
 room:oL X.A (X.d+3)
 eU:ve X.eU X.Dm X.LU
 eG:ve X.eG X.UA X.LG
 co:X.eG.scope.isCoroutine=false
 n0:X.dX.n<=X.nb
 hG:X.dX.h.get? X.LG=none
 g0:X.dX.s.gens.size<=X.g
 loc:X.Dm.names.lookup X.y=some .local
def tn(y:Str)(u:Option Value)(loc:List (Str×AV)):List (Str×AV):=match u with
 |none=>loc
 |some v=>put y (.top v) loc
def p3(C:Ctx)(X:Ls)(Fin:List (Str×AV)->List AO->Prop)(R:List (Str×AV)->List (Str×AV)->List AO->Prop)(kn:Bool)(loc gl:List (Str×AV))(obj:List AO):Prop:=∀P:Bool->List (Str×AV)->List (Str×AV)->List AO->Prop,
 (∀kn GV loc eH gl g obj dm f,(GV=true->kn=true)->(∀x,known X GV x->loc.lookup x=(cE f eH).lookup x)->((∀i,i<X.nb->f i=i)/\X.nb<=dm.length)->Sub f (X.sg gl obj) (X.sg g dm)->P GV eH g dm->P kn loc gl obj)->
 (∀kn loc gl ou e b obj a c d,fx C X.t (X.sg gl obj) true (X.sg ou a)->fx C X.c1 (X.sg ou a) false (X.sg e c)->fx C X.c2 (X.sg e c) false (X.sg b d)->P kn loc b d->P kn loc gl obj)->
 (∀kn fl v loc j gl ou e b h Ed obj a c d l k qS,fx C X.t (X.sg gl obj) true (X.sg ou a)->fx C X.c1 (X.sg ou a) false (X.sg e c)->fx C X.c2 (X.sg e c) true (X.sg b d)->iD C X.e2 (X.sg b d) v (X.sg h l)->
  dz C X.body (X.su (put X.y v loc) l) fl (X.su j k)->fl=.next\/fl=.cont->fx C X.c2 (X.sg h k) false (X.sg Ed qS)->R j Ed qS->P kn loc gl obj)->
 (∀loc gl obj,loc.lookup X.y=none->(∀u,P true (tn X.y u loc) gl obj)->P false loc gl obj)->
 (∀loc gl ou obj a,fx C X.t (X.sg gl obj) false (X.sg ou a)->Fin loc a->P true loc gl obj)->P kn loc gl obj
def r9(C:Ctx)(X:Ls)(Fin:List (Str×AV)->List AO->Prop)(n:Nat):List (Str×AV)->List (Str×AV)->List AO->Prop:=Nat.rec (fun _ _ _=>False) (fun _ r=>p3 C X Fin r true) n
def LH(C:Ctx)(X:Ls)(Fin:List (Str×AV)->List AO->Prop)(n:Nat):Bool->List (Str×AV)->List (Str×AV)->List AO->Prop:=p3 C X Fin (r9 C X Fin n)
section
variable{Fin:List (Str×AV)->List AO->Prop}
theorem LH.gc(f:Nat->Nat)(k:GV=true->kn=true)(j:∀x,known X GV x->loc.lookup x=(cE f eH).lookup x)(pin:(∀i,i<X.nb->f i=i)/\X.nb<=dm.length)(s:Sub f (X.sg gl obj) (X.sg g dm))(h:LH C X Fin n GV eH g dm):LH C X Fin n kn loc gl obj:=
 fun P a b c d e=>a _ _ _ _ _ _ _ _ f k j pin s (h P a b c d e)
theorem LH.silent(a:fx C X.t (X.sg gl obj) true (X.sg ou j))(b:fx C X.c1 (X.sg ou j) false (X.sg l o))(c:fx C X.c2 (X.sg l o) false (X.sg k m))(h:LH C X Fin n kn loc k m):LH C X Fin n kn loc gl obj:=
 fun P i f g d e=>f _ _ _ _ _ _ _ _ _ _ a b c (h P i f g d e)
theorem LH.r7{v:AV}(a:fx C X.t (X.sg gl obj) true (X.sg ou g))(b:fx C X.c1 (X.sg ou g) false (X.sg m j))(c:fx C X.c2 (X.sg m j) true (X.sg i p))(e:iD C X.e2 (X.sg i p) v (X.sg l o))(f:dz C X.body (X.su (put X.y v loc) o) fl (X.su r q))
  (k:fl=.next\/fl=.cont) (d:fx C X.c2 (X.sg l q) false (X.sg Ed qS)) (h:LH C X Fin n true r Ed qS):LH C X Fin (n+1) kn loc gl obj:=
 fun _ _ _ y _ _=>y _ _ _ _ _ _ _ _ _ _ _ _ _ _ _ _ _ _ a b c e f k d h
theorem LH.top(f:loc.lookup X.y=none)(h:∀u:Option Value,LH C X Fin n true (tn X.y u loc) gl obj):LH C X Fin n false loc gl obj:=
 fun P a b c d e=>d _ _ _ f fun u=>h u P a b c d e
theorem LH.fin(a:fx C X.t (X.sg gl obj) false (X.sg ou b))(f:Fin loc b):LH C X Fin n true loc gl obj:=fun _ _ _ _ _ e=>e _ _ _ _ _ a f
end
section
theorem Nv.mono(w:Mo Ω cb)(k:∀o,Ω.h.get? M=some o->cb.h.get? M=some o)(r:Nv C Ω M q loc):Nv C cb M q loc:=by
 exact cS r fun m d a b=>(lQ d fun o es c e r=>⟨m,⟨o,es,c,k _ e,r⟩,fun x av h z=>(a x av h z).imp fun _ z=>⟨z.1,z.2.eK w⟩,b⟩)
theorem Nv.of(r:nh C Ω M loc):Nv C Ω M q loc:=r.imp fun _ z=>⟨z.1,fun x av _=>z.2.1 x av,fun x _=>z.2.2 x⟩
theorem Nv.full(h:∀x,q x)(r:Nv C Ω M q loc):nh C Ω M loc:=r.imp fun _ z=>⟨z.1,fun x av=>z.2.1 x av (h x),fun x=>z.2.2 x (h x)⟩
theorem W.Qi(a:W L dX Ω)(b:W M Ω cb)(g:dX.h.get? M=none):W L dX cb:=
 ⟨ag a.le b.le,fun i hi=>(b.same i (aS hi a.le)).trans (a.same i hi),
  fun i f d=>(aV i Ω.n).elim (fun q=>b.same i q▸a.fresh i f q) fun q=>⟨a.back (b.fresh i q d).1,a.back (b.fresh i q d).2⟩,
  fun x o e=>(a.alive x o e).elim fun o'=>b.alive x o',
  fun x o e nl no=>b.keep x o (a.keep x o e nl no) (bX e g) fun i hi=>(aV i dX.n).elim (fun q=>a.same i q▸no i q) fun q=>⟨bX e (a.fresh i q hi).1,bX e (a.fresh i q hi).2⟩,
  fun x o e c=>b.ru x o (a.ru x o e c) c,a.sm.trans b.sm⟩
theorem gv.size(h:gv s s'):s.gens.size<=s'.gens.size:=by
 have e:=az length h.gens;rw [bE,length_toList,length_toList] at e;have q:min s.gens.size s'.gens.size<=s'.gens.size:=bO _ _;rw [e] at q;exact q
theorem lO{h b:Heap}(e:h.IsGen a g)(k:∀o,h.get? a=some o->b.get? a=some o):b.IsGen a g:=by
 exact lQ e fun o nm d c r=>(kj o nm d ⟨k _ c,r⟩)
theorem Gw.step(I:Gw C X kn loc gl obj Ω)(hG:X.dX.h.get? X.LG=none)(w:W X.LG Ω cb)(r:Rel C X.LG cb (X.sg a dm)):Gw C X kn loc a dm cb:=
 have su:=I.su.step w;have sa:=I.sa.step w
 ⟨r,I.fu.mono w.mo su.2,su.1,sa.1,I.ne,lO I.gen sa.2,I.base.Qi w hG,aS I.gs w.sm.size⟩
theorem Gw.top(I:Gw C X false loc gl obj Ω)(f:loc.lookup X.y=none):∃u,Gw C X true (tn X.y u loc) gl obj Ω:=by
 refine cS (I.fu) fun m d a b=>?_;have ne:∀x,x≠X.y->known X.toLs false x:=fun x h z=>absurd z h
 refine⟨m X.y,I.rel,⟨m,d,fun x av _ e=>?_,fun x _ e=>?_⟩,I.su,I.sa,I.ne,I.gen,I.base,I.gs⟩
 .rcases q:m X.y with _|v
  .rw [q] at e;have e:loc.lookup x=some av:=e;exact a x av (ne x fun z=>by rw [z,f] at e;exact cX e) e
  .rw [q] at e;have e:(put X.y (.top v) loc).lookup x=some av:=e;rw [ef] at e;by_cases z:x=X.y
   .rw [if_pos z] at e;(injection e with c;subst c);exact⟨v,z▸q,.top v⟩
   .rw [if_neg z] at e;exact a x av (ne x z) e
 .rcases q:m X.y with _|v
  .rw [q] at e;by_cases z:x=X.y
   .exact eL z q
   .exact b x (ne x z) (e)
  .rw [q] at e;have e:(put X.y (.top v) loc).lookup x=none:=e;rw [ef] at e;by_cases z:x=X.y
   .rw [if_pos z] at e;exact cX (Eq.symm e)
   .rw [if_neg z] at e;exact b x (ne x z) e
theorem Gw.nu(I:Gw C X kn loc gl obj Ω)(hG:X.dX.h.get? X.LG=none)(p:cW C ⟨d,X.eG,X.LG⟩ Ω (X.sg c dm) Q b a s'):∃cb,Gw C X kn loc c dm cb/\Q cb b a/\cb.s=s':=by
 exact dW p fun cb w H q e=>⟨cb,I.step hG w H.rel,q,e⟩
theorem Gw.hr(I:Gw C X kn loc gl obj Ω)(K:qJ X)(r:oL a X.d):Hr C ⟨a,X.eG,X.LG⟩ Ω (X.sg gl obj):=⟨I.rel,r,K.eG⟩
theorem Gw.gc(I:Gw C X kn loc gl obj Ω)(n0:X.dX.n<=X.nb)(pin:(∀i,i<X.nb->c i=i)/\X.nb<=dm.length)(o:GV=true->kn=true)(g:∀x,known X.toLs GV x->loc.lookup x=(cE c eH).lookup x)(s:Sub c (X.sg gl obj) (X.sg j dm)):Gw C X GV eH j dm (Ω.small c dm.length):=by
 have lt:=fun i h=>I.rel.lt (s.obj i _ (ao h))
 have d:∀ {a},dq C X.LG Ω a->dq C X.LG (Ω.small c dm.length) a:=fun S=>⟨S.eu,S.lo,fun i hi=>S.own _ (lt i hi),S.ob⟩
 have f:∀x,known X.toLs GV x->known X.toLs kn x:=fun x h e=>o (h e)
 exact cS (I.fu) fun m k a b=>⟨I.rel.shrink s,⟨m,k,fun x av h e=>((a x (av.ed c) (f x h) (by refine eL (g x h) (eL (ij ..) (eL e ?_));rfl)).imp fun _ z=>⟨z.1,z.2.shrink (fun i h=>s.out i (I.rel.n▸h)) rfl⟩),fun x h e=>(b x (f x h) (by refine eL (g x h) (eL (ij ..) (eL e ?_));rfl))⟩,d I.su,d I.sa,I.ne,I.gen,⟨ag n0 pin.2,fun i hi=>(az Ω.ρ (pin.1 i (aS hi n0))).trans (I.base.same i hi),fun i l hi=>I.base.fresh (c i) ((aV (c i) X.dX.n).elim (fun q=>absurd (s.inj (c i) i (s.out _ (eL (pin.1 _ (aS q n0)) (I.rel.n▸lt i hi))) hi (pin.1 _ (aS q n0))) (ne_of_lt (aS q l))) id) (lt i hi),I.base.alive,I.base.keep,I.base.ru,I.base.sm⟩,I.gs⟩
end
end
section
open PySem.W.X
abbrev Lp.cF(X:Lp):Code:=.func X.fn X.eG
abbrev Lp.oC(X:Lp):Code:=.whileLoop X.t X.l [] X.eG
set_option backward.match.sparseCases true in
abbrev Lp.oF(X:Lp)(a:Pos):List Frame:=[.ret (RK X.eG (fun f=>match f with |.next=>(execs [] X.eG).wrap zB (zM X.eG) id id|f=>zB f) (zM X.eG) id id) none false [] X.cF a []]
set_option backward.match.sparseCases true in
abbrev Lp.iF(X:Lp)(r:List Stmt)(a b:Pos):List Frame:=
 .ret (RK X.eG (fun f=>match f with |.next=>(execs r X.eG).wrap (rx X.t X.l [] X.eG) (rz X.eG) id id|f=>rx X.t X.l [] X.eG f) (rz X.eG) id id) none false [] X.oC b []::X.oF a
abbrev Lp.i2(X:Lp):Code:=.whileLoop X.c2 X.b2 [] X.eG
def After(C:Ctx)(X:Ls)(Fin:List (Str×AV)->List AO->Prop)(n:Nat)(kn:Bool)(loc:List (Str×AV))(v:AV)(gl:List (Str×AV))(obj:List AO):Prop:=
 ∃fl a b Ed qS,dz C X.body (X.su (put X.y v loc) obj) fl (X.su a b)/\(fl=.next\/fl=.cont)/\fx C X.c2 (X.sg gl b) false (X.sg Ed qS)/\LH C X Fin n true a Ed qS
section
variable{C:Ctx}{X:Lp}{Ω:Om}{n:Nat}{kn:Bool}{loc gl ou Cg:List (Str×AV)}{obj gh nj:List AO}{s:Shared}{P:End->Shared->Prop}{pF p1:Pos}{Fin:List (Str×AV)->List AO->Prop}
theorem EW(r:oL X.A (X.d+3)):oL (X.A.in1.over X.cF []) X.d:=
 ⟨by have:=r.depth;exact cC 0x10FEBDB3B8CD1AC9C804FEBDB3B8CDC3B81A0 tt this,by have:=r.units;exact cC 0x10F8B2B3BACD1EB9C3B8C8C904F8B2B3BACDC3B81EB90 tt this,r.handled⟩
theorem FO(r:oL X.A (X.d+3)):oL (X.A.in1.over X.oC (X.oF pF)) X.d:=
 ⟨by have:=r.depth;exact cC 0x10FEBDB3B8CD1AC8C904FEBDB3B8CDC3B81A0 tt this,by have:=r.units;exact cC 0x10F8B2B3BACD1EB9C8C3B8C904F8B2B3BACDC3B81EB90 tt this,r.handled⟩
theorem qe(r:oL X.A (X.d+3))(c)(b a):oL (X.A.in1.over (.whileLoop c b [] X.eG) (X.iF a pF p1)) X.d:=
 ⟨by have:=r.depth;exact cC 0x10FEBDB3B8CD1AC8C904FEBDB3B8CDC3B81A0 tt this,by have:=r.units;exact cC 0x10F8B2B3BACD1EB9C8C3B8C904F8B2B3BACDC3B81EB90 tt this,r.handled⟩
theorem HR(h:wpAny C.M (X.A.in1.over X.oC (X.oF pF)) (isTrue X.t X.eG (eval X.t X.eG)) (fun b s'=>(true=b/\SegX C.M X.A.in1 X.oC ((execs X.l X.eG).wrap (rx X.t X.l [] X.eG) (rz X.eG) id id) (X.oF pF) s' P)\/
  (false=b/\P (.ret (.ok (.ret .none))) s')) no s):SegX C.M X.A.in1 X.oC (denote table X.oC) (X.oF pF) s P:=
 og (wp_mono h fun b a r=>by
  rcases r with⟨rfl,r⟩|⟨rfl,r⟩
  .exact eL (if_pos rfl) r
  .refine eL (if_neg aA) ?_;exact s_pop C.prog C.w X.A.in1 _ _ P a (.ok .next) _ rfl _ _ _ _ _ _ _ (s_end C.prog C.w X.A.in1 _ P a (.ok (.ret .none)) _ rfl r))
theorem oQ(a:X.eG.scope.isCoroutine=false)(hi:interactive X.eG=false){c e:Expr}
  (h:wpAny C.M (X.A.in1.over (.whileLoop c [.Expr (.Yield (some e) yp) ps] [] X.eG) (X.iF r pF p1)) (isTrue c X.eG (eval c X.eG)) (fun b s'=>
   (false=b/\SegX C.M X.A.in1 X.oC ((execs r X.eG).wrap (rx X.t X.l [] X.eG) (rz X.eG) id id) (X.oF pF) s' P)\/
   (true=b/\wpAny C.M (X.A.in1.over (.whileLoop c [.Expr (.Yield (some e) yp) ps] [] X.eG) (X.iF r pF p1)) (eval e X.eG) (fun v d=>∀lv k p,k (.send .none)=.pure (.again (.whileLoop c [.Expr (.Yield (some e) yp) ps] [] X.eG))->
    P (.susp v false lv k (.whileLoop c [.Expr (.Yield (some e) yp) ps] [] X.eG) p (X.iF r pF p1)) d) no s')) no s):
  SegX C.M X.A.in1 (.whileLoop c [.Expr (.Yield (some e) yp) ps] [] X.eG) (denote table (.whileLoop c [.Expr (.Yield (some e) yp) ps] [] X.eG)) (X.iF r pF p1) s P:=
 og (wp_mono h fun b g q=>by
  rcases q with⟨rfl,q⟩|⟨rfl,q⟩
  .exact eL (if_neg aA) (s_pop C.prog C.w X.A.in1 _ _ P g (.ok .next) _ rfl _ _ _ _ _ _ _ q)
  .refine eL (if_pos rfl) ?_;exact fV (uA rfl rfl rfl (wp_mono q fun v i q lv k p f=>q lv k p f) a hi))
theorem Gw.inter(I:Gw C X kn loc gl obj Ω)(K:qJ X):interactive X.eG=false:=sr (I.hr K (EW K.room))
set_option backward.match.sparseCases true in
theorem Bi(K:qJ X)(I:Gw C X kn loc gl obj Ω)(a:fx C X.t (X.sg gl obj) true (X.sg ou gh))(b:fx C X.c1 (X.sg ou gh) false (X.sg Cg nj))
  (k:∀c p1,Gw C X kn loc Cg nj c->SegX C.M X.A.in1 X.i2 (denote table X.i2) (X.iF [] pF p1) c.s P):SegX C.M X.A.in1 X.oC (denote table X.oC) (X.oF pF) Ω.s P:=
 HR (wp_mono (a _ _ (I.hr K (FO K.room))) fun _ s' p=>by
  refine cS (I.nu K.hG p) fun h d q e=>?_;clear a;subst e
  refine .inl ⟨q,fV (tD fun p1=>oQ K.co (I.inter K) (wp_mono (b _ _ (d.hr K (qe K.room _ _ _))) fun _ s' p=>(cS (d.nu K.hG p) fun c g f e=>?_)))⟩;clear p d q K I b;subst e;exact .inl ⟨f,fV (tD fun p1=>k c p1 g)⟩)
theorem seg(K:qJ X)(x:LH C X.toLs Fin n kn loc gl obj)(r:∀cb eH z dm,Gw C X true eH z dm cb->Fin eH dm->P (.ret (.ok (.ret .none))) cb.s):∀Ω,Gw C X kn loc gl obj Ω->
  (∀m,m<n->∀cb kn loc v i gl obj,Gw C X kn loc gl obj cb->VR C cb v i->After C X.toLs Fin m kn loc v gl obj->∀lv k p p1,k (.send .none)=.pure (.again X.i2)->P (.susp i false lv k X.i2 p (X.iF [] pF p1)) cb.s)->
  SegX C.M X.A.in1 X.oC (denote table X.oC) (X.oF pF) Ω.s P:=by
 refine x (fun kn loc gl obj=>∀Ω,Gw C X kn loc gl obj Ω->(∀m,m<n->∀cb kn loc v i gl obj,Gw C X kn loc gl obj cb->VR C cb v i->After C X.toLs Fin m kn loc v gl obj->∀lv k p p1,k (.send .none)=.pure (.again X.i2)->P (.susp i false lv k X.i2 p (X.iF [] pF p1)) cb.s)->SegX C.M X.A.in1 X.oC (denote table X.oC) (X.oF pF) Ω.s P) ?_ ?_ ?_ ?_ ?_
 .intro _ _ _ _ _ _ _ _ D t O pin s o;exact fun Ω I d=>o (Ω.small D _) (I.gc K.n0 pin t O s) d
 .intro _ _ _ _ _ _ _ _ _ _ a b c o;exact fun Ω I d=>Bi K I a b fun L p1 g=>oQ K.co (I.inter K) (wp_mono (c _ _ (g.hr K (qe K.room _ _ _))) fun _ s' p=>by
   refine cS (g.nu K.hG p) fun y l q j=>?_;clear I g p a b c K r;subst j
   exact .inl ⟨q,s_again C.prog C.w X.A.in1 _ _ P _ _ rfl (o y l d)⟩)
 .intro _ _ _ _ _ _ _ _ _ _ _ _ _ _ _ _ _ _ a b c e f G J h;clear x;rcases n with _|n
  .exact h.elim
  exact fun Ω I d=>Bi K I a b fun L p1 g=>oQ K.co (I.inter K) (wp_mono (c _ _ (g.hr K (qe K.room _ _ _))) fun _ s' p=>by
   refine cS (g.nu K.hG p) fun y l q j=>?_;clear I g a b c r;subst j
   refine .inr ⟨q,wp_mono (e _ _ (l.hr K (qe K.room _ _ _))) fun i T p=>(cS (l.nu K.hG p) fun B H F j=>?_)⟩;clear l q Ω e K;subst j;exact fun lv k p t=>d _ (bF _) B _ _ _ i _ _ H F (oP _ _ _ _ ⟨_,f,G,J,h⟩) lv k p p1 t)
 .intro _ _ _ d o Ω I h;exact cN (I.top d) fun u N=>(o u Ω N h)
 .intro _ _ _ _ _ a f;exact fun Ω I d=>HR (wp_mono (a _ _ (I.hr K (FO K.room))) fun _ s' p=>by
   refine cS (I.nu K.hG p) fun S E q j=>?_;clear I d p a K;subst j
   exact .inr ⟨q,r S _ _ _ E f⟩)
end
end
section
open PySem.W.X
structure Uw(C:Ctx)(X:Lp)(loc gl:List (Str×AV))(obj:List AO)(Ω:Om):Prop where
 rel:Rel C X.LU Ω (X.su loc obj)
 fg:nh C Ω X.LG gl
 sl:dq C X.LU Ω X.LG
 sa:dq C X.LU Ω X.aG
 ne:X.aG≠X.LG
 gen:Ω.h.IsGen X.aG X.g
 base:W X.LU X.dX Ω
 gs:X.g<Ω.s.gens.size
def lA(C:Ctx)(x:Stmt)(σ:St)(fl:Fl)(a:St):Prop:=∀F Ω,Hr C F Ω σ->wpAny C.M F.A (exec x F.env) (cW C F Ω a (QF C) fl) no Ω.s
def Ut(X:Lp)(s:Shared):Prop:=∃a b e cl c d,s.gens[X.g]?=some (.suspended a b X.i2 e (X.iF [] c d) cl)/\a (.send .none)=.pure (.again X.i2)
def LQ(C:Ctx)(X:Lp)(Fin:List (Str×AV)->List AO->Prop)(k:Nat)(s:Shared):Prop:=∃Ω loc gl obj ou a,Uw C X loc gl obj Ω/\Ω.s=s/\LH C X.toLs Fin k true loc ou a/\
 ((s.gens[X.g]?=some (.fresh X.cF)/\lA C X.US (X.sg gl obj) .next (X.sg ou a))\/(Ut X s/\fx C X.c2 (X.sg gl obj) false (X.sg ou a)))
section
variable{g:Nat}{s:Shared}
theorem Rel.Oy(r:Rel C L Ω σ)(c:s'.heap=Ω.h)(a:s'.toks=Ω.s.toks):Rel C L ⟨Ω.ρ,Ω.n,s'⟩ σ:=
 have k:∀b o,Ω.h.get? b=some o->s'.heap.get? b=some o:=fun b o e=>by rw [c];exact e
 have m:=⟨ah _,fun _ _=>rfl,fun b o e _=>k b o e⟩
 ⟨r.n,r.fr.mono m (k _),fun i o e=>(r.ob i o e).mono m (k _) (k _),r.inj,r.eu,fun b o e=>k b o (r.old b o e),r.uK,r.lo,fun i hi=>⟨(r.hi i hi).1.imp fun _=>k _ _,(r.hi i hi).2.imp fun _=>k _ _⟩,a▸r.toks⟩
noncomputable abbrev Om.sg(Ω:Om)(g:Nat)(x:GenState):Om:=⟨Ω.ρ,Ω.n,Ω.s.setGen g x⟩
theorem Om.NV:Mo Ω (Ω.sg g x):=⟨ah _,fun _ _=>rfl,fun _ _ e _=>e⟩
theorem W.sg(w:W L dX Ω)(hg:dX.s.gens.size<=g)(a:x.bare=true):W L dX (Ω.sg g x):=⟨w.le,w.same,w.fresh,w.alive,w.keep,w.ru,w.sm.setGen hg x a⟩
theorem LW:(s.setGen g x).gens.size=s.gens.size:=Array.size_setIfInBounds
theorem Wt(h:g<s.gens.size):(s.setGen g x).gens[g]?=some x:=Array.getElem?_setIfInBounds_self_of_lt h
theorem gv.gen(h:gv s s')(e:s.gens[g]?=some x):s'.gens[g]?=some x:=by
 rw [<-getElem?_toList] at e ⊢;rw [<-h.gens,List.getElem?_take] at e;split at e
 .exact e
 .exact cX e
theorem Rel.pq(r:Rel C L Ω σ)(ne:M≠L):dq C M Ω L:=⟨ne,r.uK,fun i hi=>⟨(r.eu i hi).1.symm,(r.eu i hi).2.symm⟩,by
 refine bW (r.fr) fun m a _=>(cN (r.lM) fun o e=>?_)
 exact⟨o,e,kJ a e⟩⟩
theorem dq.to(S:dq C L Ω M)(ne:a≠M):dq C a Ω M:=⟨ne,S.lo,S.own,S.ob⟩
theorem Gw.sg(I:Gw C X kn loc gl obj Ω)(K:qJ X)(a:x.bare=true):Gw C X kn loc gl obj (Ω.sg X.g x):=
 ⟨I.rel.Oy rfl rfl,I.fu.mono Om.NV fun _ e=>e,⟨I.su.eu,I.su.lo,I.su.own,I.su.ob⟩,⟨I.sa.eu,I.sa.lo,I.sa.own,I.sa.ob⟩,I.ne,I.gen,I.base.sg K.g0 a,eL LW I.gs⟩
theorem Uw.gw(I:Uw C X loc gl obj Ω):Gw C X true loc gl obj Ω:=
 ⟨I.rel.frame X.UA X.d I.fg (fun i hi=>⟨(I.sl.own i hi).1.symm,(I.sl.own i hi).2.symm⟩) I.sl.lo,.of I.rel.fr,I.rel.pq I.sl.eu.symm,I.sa.to I.ne.symm,I.sa.eu.symm,I.gen,I.base,I.gs⟩
theorem Gw.uw(I:Gw C X kn loc gl obj Ω)(f:nh C Ω X.LU eH):Uw C X eH gl obj Ω:=
 ⟨I.rel.frame X.Dm (X.d+3) f (fun i hi=>⟨(I.su.own i hi).1.symm,(I.su.own i hi).2.symm⟩) I.su.lo,I.rel.fr,I.rel.pq I.su.eu.symm,I.sa.to I.ne.symm,I.sa.eu.symm,I.gen,I.base,I.gs⟩
theorem Uw.hr(I:Uw C X loc gl obj Ω)(K:qJ X):Hr C X.fU Ω (X.su loc obj):=⟨I.rel,K.room,K.eU⟩
theorem Uw.step(I:Uw C X loc gl obj Ω)(w:W X.LU Ω cb)(r:Rel C X.LU cb (X.su eH dm)):Uw C X eH gl dm cb:=
 have sl:=I.sl.step w;have sa:=I.sa.step w
 ⟨r,I.fg.mono w.mo sl.2,sl.1,sa.1,I.ne,lO I.gen sa.2,I.base.trans w,aS I.gs w.sm.size⟩
theorem UC(I:Gw C X kn loc gl obj Ω)(K:qJ X)(u:VR C Ω v j)(k:∀cb,Uw C X (put X.y v loc) gl obj cb->cb.s.gens=Ω.s.gens->Q () cb.s):
  wpAny C.M X.A (assign (.Name X.y X.py) X.eU j) Q E Ω.s:=by
 refine cS (I.fu) fun m n B p=>?_;have F:X.eU.kindOf X.y=some .local:=by unfold Env.kindOf;exact eL K.eU.scope K.loc
 refine wpAny_assign_Name (wpAny_storeName_local F (K.eU.loc▸n) (fun f a b=>?_) (by refine eL K.eU.scope (eL K.eU.kind ?_);rfl));rw [K.eU.loc] at a b;have l:=b.extBut;have h:Ω.s.toks<=Ω.s.toks+1:=aE _;have mo:=I.su.mo (t:=Ω.s.toks+1) l;have r:=I.rel.fJ I.su h l;have w:=W.one h (fun y ne o e=>(b.2 y ne).trans e) (by refine lQ a fun o _ _ e _=>?_;exact⟨o,e⟩) (.inl rfl) fun o e=>kJ n e
 have sa:=(I.sa.to I.ne.symm).step w;have fr:nh C (Ω.mv f (Ω.s.toks+1)) X.LU (put X.y v loc):=⟨_,a,fun x av q=>by
  rw [ef] at q;by_cases c:x=X.y
  .rw [if_pos c] at q ⊢;(injection q with D;subst D);exact⟨j,rfl,u.eK mo⟩
  .rw [if_neg c] at q ⊢;exact(B x av (fun z=>absurd z c) q).imp fun _ z=>⟨z.1,z.2.eK mo⟩,fun x q=>by
  rw [ef] at q;by_cases c:x=X.y
  .rw [if_pos c] at q;exact cX (Eq.symm q)
  .rw [if_neg c] at q ⊢;exact p x (fun z=>absurd z c) q⟩
 exact k (Ω.mv f (Ω.s.toks+1)) ⟨(r.frame X.Dm (X.d+3) fr (fun i hi=>⟨(I.su.own i hi).1.symm,(I.su.own i hi).2.symm⟩) I.su.lo:Rel C X.LU (Ω.mv f (Ω.s.toks+1)) (X.su (put X.y v loc) obj)),r.fr,((I.rel.pq I.su.eu.symm).step w).1,sa.1,I.sa.eu.symm,lO I.gen sa.2,I.base.trans w,I.gs⟩ rfl
end
end
section
open PySem.W.X
def TQ(C:Ctx)(X:Lp)(Z:Result->Shared->Prop)(E:Value->Shared->Prop)(c:Shared->Prop)(r:Option Value)(s₁:Shared):Prop:=match r with
 |none=>wpAny C.M X.A (execs [] X.eU) (fun fl a=>Z (.ok fl) a) E s₁
 |some v=>wpAny C.M X.A (letOwnedTupleGo (.Name X.y X.py) (.ref X.aG) v) (fun _ d=>wpAny C.M X.A (assign (.Name X.y X.py) X.eU v) (fun _ b=>wpAny C.M X.A (execs X.body X.eU) (fun fl a=>match fl with
    |.next |.cont=>c a
    |.brk=>Z (.ok .next) a
    |.ret v=>Z (.ok (.ret v)) a) E b) E d) E s₁
section
variable{C:Ctx}{X:Lp}{Ω cb dX:Om}{n:Nat}{kn:Bool}{loc gl ou Cg:List (Str×AV)}{obj dm gh nj:List AO}{s s':Shared}{Fin:List (Str×AV)->List AO->Prop}{x:GenState}{v:AV}{vv:Value}{Z:Result->Shared->Prop}{E:Value->Shared->Prop}{pF p1:Pos}
abbrev Yg(C:Ctx)(X:Lp)(Fin:List (Str×AV)->List AO->Prop)(Z:Result->Shared->Prop):Prop:=∀Ω loc obj,Fin loc obj->W X.LU X.dX Ω->Hr C X.fU Ω (X.su loc obj)->Z (.ok .next) Ω.s
abbrev XB(C:Ctx)(X:Lp)(Fin:List (Str×AV)->List AO->Prop)(Z:Result->Shared->Prop)(E:Value->Shared->Prop)(n:Nat):End->Shared->Prop:=Dl (TQ C X Z E fun s=>∃m,m<n/\LQ C X Fin m s) X.g
theorem EM(h:Q () s):wpAny C.M A (letOwnedTupleGo (.Name y py) (.ref a) vv) Q E s:=aL h
theorem Px(K:qJ X)(b:Yg C X Fin Z)(I:Gw C X true loc gl obj Ω)(f:Fin loc obj):XB C X Fin Z E n (.ret (.ok (.ret .none))) Ω.s:=
 .inl ⟨rfl,fun d c=>wpAny_execs_nil (by
  have J:=I.sg (x:=.finished) K rfl;have U:=J.uw (J.fu.full fun _ _=>rfl);have a:=c;exact b ((Ω.sg X.g .finished).mv d (Ω.sg X.g .finished).s.toks) _ _ f (U.base.trans (W.grown (ah _) a)) ⟨U.rel.grown (ah _) a,K.room,K.eU⟩)⟩
theorem Qt(K:qJ X)(I:Gw C X kn loc gl obj Ω)(g:VR C Ω v vv)(e:m<n)(a:After C X.toLs Fin m kn loc v gl obj)(r:k (.send .none)=.pure (.again X.i2)):
  XB C X Fin Z E n (.susp vv false lv k X.i2 p (X.iF [] pF p1)) Ω.s:=
 .inr ⟨vv,lv,k,X.i2,p,_,rfl,fun hb=>by
  have J:=I.sg K hb;refine EM (UC J K (g.eK Om.NV) fun u U e1=>(JO a fun fl j l Ed qS f y o h=>(bu (f _ _ (U.hr K)) (fun B A z=>(dW z ?_)) fun _ _ x=>x.elim)));clear z;intro c b d q w;clear f J hb K g a;subst w;have t:Ut X c.s:=(oP k lv p _ (dJ pF p1 ⟨b.sm.gen (e1▸Wt I.gs),r⟩));have i:∃m,m<n/\LQ C X Fin m c.s:=⟨m,e,c,_,_,_,_,_,U.step b d.rel,rfl,h,.inr ⟨t,o⟩⟩;clear t b d o h U e1 I e r;rcases y with rfl|rfl
  .clear j l Ed qS u;refine q.jk ?_;exact i
  .clear j l Ed qS u;refine q.wg ?_;exact i⟩
theorem IK(G:Good C)(K:qJ X)(r:Yg C X Fin Z)(q:LQ C X Fin n s):wpAny C.M X.A (pyNext (.ref X.aG)) (TQ C X Z E fun s=>∃m,m<n/\LQ C X Fin m s) E s:=by
 refine YK q ?_;intro Ω loc gl obj ou gh U d h st;subst d;have lim:=G.lim.keeps fun b o e=>U.rel.old b o e
 have hr:X.A.depth<recursionLimit:=by have:=K.room.depth;show X.A.depth<1000;exact cC 0x11F8BEB3B804FEBDB3B8CDC3B81A0 tt this
 have J:=U.gw.sg (x:=.running) K rfl;have t:∀m,m<n->∀cb kn loc v vv gl obj,Gw C X kn loc gl obj cb->VR C cb v vv->After C X.toLs Fin m kn loc v gl obj->∀lv k p p1,k (.send .none)=.pure (.again X.i2)->∀pF,XB C X Fin Z E n (.susp vv false lv k X.i2 p (X.iF [] pF p1)) cb.s:=
  fun m j cb kn loc v vv gl obj I l a lv k p p1 g pF=>Qt K I l j a g
 have go:=fun pF i c=>
  seg K h (fun cb eH B dm I f=>Px K r I f) i c fun m j cb kn loc v vv gl obj I l a lv k p p1 g=>t m j cb kn loc v vv gl obj I l a lv k p p1 g pF
 clear t h G r;rcases st with⟨hg,t0⟩|⟨⟨u,z,pp,cl,pF,p1,hg,g⟩,y⟩
 .refine wt K.room.handled lim hr U.gen hg (.inl ⟨rfl,rfl,rfl⟩) (RH (fV (qu (wp_mono (t0 _ _ (J.hr K (EW K.room))) fun fl s' p=>(cS (J.nu K.hG p) fun i c q d=>?_)))));clear p J hr lim U K;subst d;exact q.jk (fV (tD fun pF=>go pF i c))
 .refine wt K.room.handled lim hr U.gen hg (.inr (oP u z pp cl ⟨rfl,rfl⟩)) (eL g (s_again C.prog C.w X.A.in1 _ _ _ _ _ rfl (oQ K.co (J.inter K) (wp_mono (y _ _ (J.hr K (qe K.room _ _ _))) fun _ s' p=>(cS (J.nu K.hG p) fun i c q d=>?_)))));clear p J hr lim U K;subst d;exact .inl ⟨q,s_again C.prog C.w X.A.in1 _ _ _ _ _ rfl (go pF i c)⟩
theorem IH(G:Good C)(K:qJ X)(a:Yg C X Fin Z)(q:LQ C X Fin n s):codeAny C.M X.A (.forLoop (.Name X.y X.py) (.ref X.aG) X.body [] X.eU) Z s:=by
 refine codeAny_forLoop_any (LQ C X Fin) (fun k b q=>bu (IK G K a q) (fun r s₁ q=>?_) fun _ _ x=>x) n q;rcases r with _|v
 .exact q
 .exact q
end
end
section
open PySem.W.X
section
variable{C:Ctx}{S:Ls}{F:Fm}{Ω dX:Om}{n j:Nat}{loc ou:List (Str×AV)}{obj gh:List AO}{s:Shared}{Fin:List (Str×AV)->List AO->Prop}
theorem Cn(X:C.K.In s.heap)(I:InstAt s.heap x d c od)(b:findIn C.K (.ref c) name=some (some (.ref f)))(a:isFn C.K (.ref f)=true)
  (h:wpAny C.M A (call (.ref f) [.ref x]) (fun v=>Q (some v)) E s):wpAny C.M A (callSpecialIfBoundUnlessNone? (.ref x) name refuse) Q E s:=by
 refine bK (ai (ai (ai (I.type.here ((looks_findIn X b).here (ai (wpAny_askSetting (wpAny_ite ?_))))))));have fin:wpAny C.M A (if(Value.ref f==Value.none)=true then(refuse>>=fun v=>pure (some v)) else(call (.ref f) [.ref x]>>=fun v=>pure (some v))) Q E s:=
  wpAny_ite_false rfl (ai (bu h (fun _ _ z=>aL z) fun _ _ z=>z))
 split
 .exact ai ((bind_fn X _ (aC.mp a)).here (aL fin))
 .exact wpAny_tryCatch (ai ((bind_fn X _ (aC.mp a)).here (aL fin)))
theorem gv.TK(hg:s3.gens=s.gens.push x)(a:x.bare=true)(b:s.toks<=s3.toks)(hd:s3.drawn=s.drawn)(ho:s3.os=s.os):gv s s3:=
 ⟨by exact eL hg (eL Array.toList_push (eL (List.take_append_of_le_length (Nat.le_of_eq length_toList.symm)) (eR length_toList (eL take_length rfl)))),eL hg (eL Array.toList_push (eL all_append (eL all_cons (eL a (Bool.and_true _))))),hd,ho,b⟩
theorem W.PO(k:∀b o,Ω.h.get? b=some o->s3.heap.get? b=some o)(sm:gv Ω.s s3):W L Ω ⟨Ω.ρ,Ω.n,s3⟩:=
 ⟨ah _,fun _ _=>rfl,fun _ a b=>absurd b (Nat.not_lt.mpr a),fun b o e=>⟨o,k b o e⟩,fun b o e _ _=>k b o e,fun b o e _=>k b o e,sm⟩
structure GenAt(C:Ctx)(S:Ls)(loc:List (Str×AV))(obj:List AO)(j:Nat)(gl:List (Str×AV))(p:FuncData×List Stmt)(f:Addr):Prop where
 inst:∃q,vR C.K (S.su loc obj) "__iter__" (.obj j)=some q/\findIn C.K (.ref q.1) "__iter__"=some (some (.ref f))
 fn:isFn C.K (.ref f)=true
 at_:fnAt C.K f=some p
 gen:p.1.scope.isGenerator=true
 body:p.2=S.fn
 sc:p.1.scope=S.UA
 bs:∃ds bs,defsOf C.K p.1.defaults=some ds/\mw (p.1.params.args.map (·.arg)) ds [.obj j] []=some bs/\bs.reverse=gl
 y8:S.Dm.names.lookup S.y=some .local
theorem Jb(G:Good C){gl:List (Str×AV)}{p:FuncData×List Stmt}{f:Addr}{e:Expr}{pos:Pos}(T:GenAt C S loc obj j gl p f)(w0:W F.L dX Ω)(n0:dX.n<=S.nb)(H:Hr C F Ω (S.su loc obj))(hs:fE e=true)(he:iD C e (S.su loc obj) (.obj j) (S.su loc obj))
  (h0:lA C S.US (S.sg gl obj) .next (S.sg ou gh)) (h:LH C S Fin n true loc ou gh):
  wpAny C.M F.A (exec (.For (.Name S.y S.py) e S.body [] pos) F.env) (fun fl s'=>fl=.next/\∃cb eH dm,Fin eH dm/\W F.L dX cb/\Hr C F cb (S.su eH dm)/\cb.s=s') no Ω.s:=by
 refine wpAny_For (nu (he _ _ H) fun c v w1 H1 U=>(bW (T.inst) fun q hq O=>(Ju ((mx G H1 U).of hq).2 fun x ox od _ zz I _ _=>?_))) (iA hs);subst zz;refine cw (T.bs) fun ds bs hd hb E8=>?_;have u:=(pe f).of T.at_
 refine bW u.1 fun o ho rU=>?_;have GU:=u.2
 have ok:=u.3;clear u;refine bW ((nz G H1.keep p.1.defaults).of hd) fun bT l r=>(bW ((ng (ns:=[]) r (.cons U .nil) (de.nil)).of hb) fun binds e1 e2=>?_)
 have Y:=qg ok;have K:C.K.In c.h:=fun a o e=>H1.keep _ _ (G.lI _ _ e)
 have X:=H1.rel.lM;refine ai (ai (I.type.here ((looks_findIn K O).here (ai (Cn K I O T.fn (mi (codeAny_call_generator (Nat.lt_of_le_of_lt (ag (aK _ _) H1.room.depth) (by decide)) (K _ _ ho) rU Y.co T.gen (T.body▸GU) (codeRec_of K Y.code) (qb Y.ps l e1 _ _ _ _ (wpAny_newFunctionEnv Y.cells (fun x hx=>?_) (fun i P V=>⟨(G.lim.keeps H1.keep).fresh _ V,?_⟩) Y.kind)))))))))
 .exact bW (bL.mp (jO e1 x hx)) fun a ha z=>(z▸Y.locs a ha)
 have B:=fun b o e=>V.extBut b o (ne_of_lt (qk e)) (aP _ e)
 have lt:c.h.objs.size<i.objs.size:=by refine lQ P fun o _ _ e _=>?_;exact qk e
 have pG:=cK c.h (ah _);have R':=Rel.enter (t:=c.s.toks+binds.length) H1.rel (aK _ _) (F2.reverse e2) P B S.UA S.d;generalize m:({ cls:=Value.type "generator",data:=Data.fields #[Value.int (c.s.gens.size) 0,Value.str p.1.name (c.s.toks+binds.length),Value.str p.1.qualname (c.s.toks+binds.length+1)] }:Obj)=go;have gi:gL go=false:=by refine eR m ?_;rfl
 have J:(i.push go).get? i.objs.size=some go:=bp _ (by refine eR m ?_;rfl);have m2:(i.push go).IsGen i.objs.size c.s.gens.size:=(kj go _ _ ⟨J,by exact eR m rfl,by exact eR m rfl,by exact eR m rfl⟩);have N:∀b o,i.get? b=some o->(i.push go).get? b=some o:=fun b o e=>aP _ e
 have D:=w0.trans w1;have sl:=R'.pq (X.elim fun _ x=>bX x pG);have sa:dq C F.L (c.mv (i.push go) (c.s.toks+binds.length+1+1)) _:=H1.rel.uN (cK c.h (le_of_lt lt)) J gi;have key:∀k Z,k.heap=i.push go->k.toks=c.s.toks+binds.length+1+1->k.gens=c.s.gens.push (.fresh (.func S.fn (newEnv p.1.scope c.h.objs.size p.1.globals p.1.closure (p.1.qualname++".<locals>.") (some f) p.1.code none p.1.builtins)))->
   k.drawn=c.s.drawn->k.os=c.s.os->(∀cb eH dm,Fin eH dm->W F.L dX cb->Hr C F cb (S.su eH dm)->Z (.ok .next) cb.s)->codeAny C.M F.A (.forLoop (.Name S.y S.py) (.ref i.objs.size) S.body [] F.env) Z k:=fun k Z l r E g4 g5 hz=>by
  have w:∀b o,i.get? b=some o->k.heap.get? b=some o:=fun b o e=>by exact eL l (N b o e)
  refine IH (X:={ toLs:=S,A:=F.A,eU:=F.env,LU:=F.L,eG:=newEnv p.1.scope c.h.objs.size p.1.globals p.1.closure (p.1.qualname++".<locals>.") (some f) p.1.code none p.1.builtins,LG:=c.h.objs.size,aG:=i.objs.size,g:=c.s.gens.size,dX:=dX }) G
   ⟨H1.room,H1.env,⟨T.sc,T.sc▸Y.kind,rfl,Y.gl,Y.bl⟩,T.sc▸Y.co,n0,D.back pG,D.sm.size,T.y8⟩ hz
   ⟨⟨c.ρ,c.n,k⟩,loc,gl,obj,ou,gh,⟨(H1.rel.grown (cC 0x10FC9C9C100 tt) fun b o e=>N _ _ (B _ _ e):Rel C F.L (c.mv (i.push go) (c.s.toks+binds.length+1+1)) (S.su loc obj)).Oy l r,(E8▸nh.mono (Ω:=c.mv i (c.s.toks+binds.length)) (cb:=⟨c.ρ,c.n,k⟩) ⟨ah _,fun _ _=>rfl,fun b o e _=>w b o e⟩ (w _) R'.fr:nh C ⟨c.ρ,c.n,k⟩ c.h.objs.size gl),⟨sl.eu,sl.lo,sl.own,sl.ob.imp fun o z=>⟨w _ _ z.1,z.2⟩⟩,⟨sa.eu,sa.lo,sa.own,(⟨go,eL l J,gi⟩:∃o,k.heap.get? i.objs.size=some o/\gL o=false)⟩,bC lt,(eL l m2:k.heap.IsGen i.objs.size c.s.gens.size),
    D.trans (.PO (fun b o e=>w _ _ (B _ _ e)) (.TK E rfl (dN 0x10F017FC9C9C210 tt r) g4 g5):W F.L c ⟨c.ρ,c.n,k⟩),eL E (eL (Array.size_push ..) (bF _))⟩,rfl,h,.inl ⟨by exact eL E Array.getElem?_push_size,h0⟩⟩
 exact ai (wpAny_specialOf m2.typeIs slot_gen_next.lookup (aL (key _ _ rfl rfl rfl rfl rfl fun cb eH dm hF w' H'=>⟨rfl,cb,eH,dm,hF,w',H',rfl⟩)))
end
end
section
open PySem.SeqAt
inductive Vu(C:Ctx)(t:Expr)(b:List Stmt)(τ:St)(R:St->Prop):St->Prop
 |stop {σ:St} (a:fx C t σ false τ):Vu C t b τ R σ
 |brk {σ fi:St} (a:fx C t σ true fi) (c:dz C b fi .brk τ):Vu C t b τ R σ
 |turn {σ fi lV:St} (a:fx C t σ true fi) (c:dz C b fi .next lV) (h:R lV):Vu C t b τ R σ
def B9(C:Ctx)(t:Expr)(b:List Stmt)(a:St)(n:Nat):St->Prop:=Nat.rec (fun _=>False) (fun _ r=>Vu C t b a r) n
abbrev Sr(C:Ctx)(t:Expr)(b:List Stmt)(n:Nat)(σ a:St):Prop:=Vu C t b a (B9 C t b a n) σ
def zY(C:Ctx)(t:Expr)(x:AV)(σ a:St):Prop:=∀F Ω v,Hr C F Ω σ->VR C Ω x v->wpAny C.M F.A (assign t F.env v) (cW C F Ω a QU ()) no Ω.s
def yK(C:Ctx)(e:Expr)(σ:St)(it:It)(f:St):Prop:=∀F Ω,Hr C F Ω σ->∀Q,(∀c d t a,W F.L Ω c->Hr C F c f->c.s.toks<=t->(∀b o,c.h.get? b=some o->d.get? b=some o)->c.h.get? a=none->qX C (c.mv d t) a it->Q (.ref a) (gy c.s d t))->
 wpAny C.M F.A (eval e F.env) (fun x s₁=>wpAny C.M F.A (pyIter x) Q no s₁) no Ω.s
inductive UI(C:Ctx)(t:Expr)(b:List Stmt)(f:Fl)(τ:St)(R:It->St->Prop):It->St->Prop
 |stop {it:It} {σ:St} (h:kW it σ=some none) (e:Fl.next=f) (e':σ=τ):UI C t b f τ R it σ
 |turn {it Iq:It} {x:AV} {σ fi lV:St} {fl:Fl} (h:kW it σ=some (some (x,Iq))) (g:zY C t x σ fi) (a:dz C b fi fl lV) (hf:fl=.next\/fl=.cont) (k:R Iq lV):UI C t b f τ R it σ
 |out {it Iq:It} {x v:AV} {σ fi:St} (h:kW it σ=some (some (x,Iq))) (g:zY C t x σ fi) (a:dz C b fi (.ret v) τ) (e : .ret v=f):UI C t b f τ R it σ
def w9(C:Ctx)(t:Expr)(b:List Stmt)(f:Fl)(a:St)(n:Nat):It->St->Prop:=Nat.rec (fun _ _=>False) (fun _ r=>UI C t b f a r) n
abbrev Dc(C:Ctx)(t:Expr)(b:List Stmt)(n:Nat)(it:It)(σ:St)(f:Fl)(a:St):Prop:=UI C t b f a (w9 C t b f a n) it σ
inductive WQ(C:Ctx)(elt:Expr)(y:Str)(j:Nat)(τ:St)(R:It->St->Prop):It->St->Prop
 |stop {it:It} {σ:St} (h:kW it σ=some none) (e:σ=τ):WQ C elt y j τ R it σ
 |turn {it Iq:It} {x v:AV} {σ lV SV:St} (h:kW it σ=some (some (x,Iq))) (hy:σ.sc.names.lookup y=some .local) (a:iD C elt ⟨σ.sc,put y x σ.loc,σ.obj,σ.dep⟩ v lV) (g:DM j v lV=some (.lf .none,SV)) (k:R Iq SV):WQ C elt y j τ R it σ
def F6(C:Ctx)(elt:Expr)(y:Str)(j:Nat)(a:St)(n:Nat):It->St->Prop:=Nat.rec (fun _ _=>False) (fun _ r=>WQ C elt y j a r) n
abbrev Za(C:Ctx)(elt:Expr)(y:Str)(j:Nat)(n:Nat)(it:It)(σ a:St):Prop:=WQ C elt y j a (F6 C elt y j a n) it σ
def C2(C:Ctx)(F:Fm)(dX:Om)(t:Expr)(b:List Stmt)(a:St)(n:Nat)(s:Shared):Prop:=∃Ω σ,W F.L dX Ω/\Hr C F Ω σ/\Sr C t b n σ a/\Ω.s=s
def ZM(C:Ctx)(F:Fm)(dX:Om)(a:Addr)(t:Expr)(b:List Stmt)(f:Fl)(c:St)(n:Nat)(s:Shared):Prop:=∃Ω σ it,W F.L dX Ω/\Hr C F Ω σ/\dq C F.L Ω a/\qX C Ω a it/\Dc C t b n it σ f c/\Ω.s=s
def D2(C:Ctx)(F:Fm)(dX:Om)(a D:Addr)(elt:Expr)(y:Str)(j:Nat)(b:St)(n:Nat)(s:Shared):Prop:=∃Ω σ it,W F.L dX Ω/\Hr C F Ω σ/\dq C F.L Ω a/\qX C Ω a it/\VR C Ω (.obj j) (.ref D)/\Za C elt y j n it σ b/\Ω.s=s
section
variable{C:Ctx}{F:Fm}{Ω cb dX:Om}{σ fi τ υ:St}{s:Stmt}{r b:List Stmt}{fl:Fl}{t e:Expr}{pos py:Pos}{n:Nat}{y:Str}{a:Addr}{Z:Result->Shared->Prop}{c:Bool}
theorem Hr.fix(d:Hr C F Ω σ)(H:Hr C F cb τ):Hr C F cb ⟨σ.sc,τ.loc,τ.obj,σ.dep⟩:=⟨⟨H.rel.n,H.rel.fr,H.rel.ob,H.rel.inj,H.rel.eu,H.rel.old,H.rel.uK,H.rel.lo,H.rel.hi,H.rel.toks⟩,d.room,d.env⟩
theorem cW.fix{b:β}{a:α}(d:Hr C F Ω σ)(p:cW C F Ω τ Q b a s'):cW C F Ω ⟨σ.sc,τ.loc,τ.obj,σ.dep⟩ Q b a s':=by
 exact dW p fun f w H q e=>⟨f,w,d.fix H,q,e⟩
theorem fx.fix(h:fx C t σ c τ):fx C t σ c ⟨σ.sc,τ.loc,τ.obj,σ.dep⟩:=fun F Ω H=>wp_mono (h F Ω H) fun _ _ p=>p.fix H
theorem iD.fix{v:AV}(h:iD C t σ v τ):iD C t σ v ⟨σ.sc,τ.loc,τ.obj,σ.dep⟩:=fun F Ω H=>wp_mono (h F Ω H) fun _ _ p=>p.fix H
theorem dz.fix(h:dz C b σ fl τ):dz C b σ fl ⟨σ.sc,τ.loc,τ.obj,σ.dep⟩:=fun F Ω H=>wp_mono (h F Ω H) fun _ _ p=>p.fix H
theorem dz.nil:dz C [] σ .next σ:=fun F Ω H=>wpAny_execs_nil (.fF H .next)
theorem dz.cons(a:lA C s σ .next τ)(b:dz C r τ fl υ):dz C (s::r) σ fl υ:=fun F Ω H=>ai (wp_mono (a F Ω H) fun f s' z=>by
 refine dW z ?_;clear z;intro h g H1 q d;subst d;refine q.jk ?_;exact wp_mono (b F h H1) fun _ _ p=>p.from g)
theorem Ms(o:∀s',cW C F dX τ (QF C) .next .next s'->Z (.ok .next) s')(H:Hr C F dX σ)(h:Sr C t b n σ τ):codeAny C.M F.A (.whileLoop t b [] F.env) Z dX.s:=by
 refine codeAny_whileLoop (C2 C F dX t b τ) ?_ n (dJ dX σ ⟨.refl,H,h,rfl⟩);clear h H;intro n s v;refine rm v fun Ω σ w H h B=>?_;clear v;subst B
 induction h with
 |stop a=>
  refine bu (a F Ω H) (fun p s' z=>(dW z ?_)) fun _ _ x=>x.elim
  clear z;intro k i g d j;subst d;subst j;exact wpAny_execs_nil (o _ (.in (w.trans i) g .next))
 |brk a c=>
  refine bu (a F Ω H) (fun p s' z=>(dW z ?_)) fun _ _ x=>x.elim
  clear z;intro k i g d j;subst d;subst j;refine bu (c F k g) (fun f s' z=>(dW z ?_)) fun _ _ x=>x.elim
  clear z;intro u m l q d;subst d;exact q.brkE (o _ (.in ((w.trans i).trans m) l .next))
 |turn a c h=>
  rcases n with _|n
  .exact h.elim
  refine bu (a F Ω H) (fun p s' z=>(dW z ?_)) fun _ _ x=>x.elim
  clear z;intro k i g d j;subst d;subst j;refine bu (c F k g) (fun f s' z=>(dW z ?_)) fun _ _ x=>x.elim
  clear z;intro u m l q d;subst d;exact q.jk ⟨_,bF _,u,_,(w.trans i).trans m,l,h,rfl⟩
theorem lA.while(h:Sr C t b n σ τ):lA C (.While t b [] pos) σ .next τ:=fun F Ω H=>
 wpAny_While (Ms (fun _=>id) H h)
theorem Vr(U:∀f s',cW C F dX τ (QF C) fl f s'->Z (.ok f) s')(V:dX.h.get? a=none)(w0:W F.L dX Ω)(H:Hr C F Ω σ)(S:dq C F.L Ω a)(hr:qX C Ω a it)(h:Dc C t b n it σ fl τ):codeAny C.M F.A (.forLoop t (.ref a) b [] F.env) Z Ω.s:=by
 refine codeAny_forLoop_any (ZM C F dX a t b fl τ) ?_ n (kj Ω σ it ⟨w0,H,S,hr,h,rfl⟩);clear h hr S H w0;intro n s zi;refine MH zi fun Ω σ it w H S hr h jH=>?_;clear zi;subst jH
 have one:∀ {x} {O} {fi} {Y} {E},kW it σ=some (some (x,O))->zY C t x σ fi->(∀d,W F.L dX d->Hr C F d fi->dq C F.L d a->qX C d a O->wpAny C.M F.A (execs b F.env) Y no d.s)->
   ∀Q,(∀v s',wpAny C.M F.A (letOwnedTupleGo t (.ref a) v) (fun _ s2=>wpAny C.M F.A (assign t F.env v) (fun _ X=>wpAny C.M F.A (execs b F.env) Y E X) E s2) E s'->Q (some v) s')->wpAny C.M F.A (pyNext (.ref a)) Q E Ω.s:=fun j g k Q hQ=>bu ((kG H S hr).of j _ fun h' t' v p ke q=>by
  refine q.NY fun u hv hr S2=>?_;have w2:=w.fJ V p ke
  have H2:=H.fJ S p ke;refine hQ _ _ (nY hr.plain (bu (g F _ _ H2 hv) (fun _ X z=>(dW z ?_)) fun _ _ x=>x.elim));clear z;intro d l o _ D;subst D;have B:=S2.step l;exact bu (k d (w2.trans l) o B.1 (hr.mono l.mo B.2)) (fun _ _ x=>x) fun _ _ x=>x.elim) (fun _ _ x=>x) fun _ _ x=>x.elim
 induction h with
 |stop j e1 e2=>
  exact bu ((kG H S hr).of j _ fun h' t v p k q=>(q.Ol (wpAny_execs_nil (U _ _ (e1▸e2▸(.in (w.fJ V p k) (H.fJ S p k) .next)))))) (fun _ _ x=>x) fun _ _ x=>x.elim
 |turn j g c hf h=>
  rcases n with _|n
  .exact h.elim
  refine one j g (fun d l o B T=>wp_mono (c F d o) fun f s' z=>(dW z ?_)) _ fun v s' z=>z
  clear z;intro J G N q D;subst D;have P:=B.step G;have i:∃m,m<n+1/\ZM C F dX a t b fl τ m J.s:=⟨n,bF _,J,_,_,l.trans G,N,P.1,T.mono G.mo P.2,h,rfl⟩;rcases hf with rfl|rfl
  .refine q.jk ?_;exact i
  .refine q.wg ?_;exact i
 |out j g c e=>
  refine one j g (fun d l o B T=>wp_mono (c F d o) fun f s' z=>(dW z ?_)) _ fun v s' z=>z
  clear z;intro J G N q D;subst D;exact q.Yt fun u q=>(U _ _ (e▸(.in (l.trans G) N (.ret _ u q))))
theorem zY.name(g:σ.sc.names.lookup y=some .local):zY C (.Name y py) x σ ⟨σ.sc,put y x σ.loc,σ.obj,σ.dep⟩:=fun F Ω v H h=>(lY h).go .refl H (by unfold fM;refine eL g ?_;rfl) fun i _ f d _=>.in f d trivial
theorem yK.of(G:Good C)(f:iD C e σ x fi)(hi:qd C.K x fi=some it):yK C e σ it fi:=fun F Ω H Q h=>wp_mono (f F Ω H) fun v s' z=>by
 refine dW z ?_;clear z;intro j k d g i;subst i;exact(td G d g).of hi _ fun o fr hr=>h j _ _ _ k d (ah _) (fun _ _ e=>aP _ e) (cK _ (ah _)) hr
theorem lA.yc{it:It}(i:fE e=true)(j:yK C e σ it fi)(h:Dc C t b n it fi fl τ):lA C (.For t e b [] pos) σ fl τ:=fun F Ω H=>by
 refine wpAny_For (j F Ω H _ fun p u o a l d f k g hr=>?_) (iA i);have m:=hr.plain.ru;refine Vr ?_ g (W.grown f k) ⟨d.rel.grown f k,d.room,d.env⟩ (m.elim fun o' q=>d.rel.uN g q.1 q.2) hr h;exact fun _ _ z=>z.from l
theorem yK.range{m:Nat}(hr:iD C (.Name "range" p) σ (.top (.type "range")) σ)(hp:plainArg e=true)(j:iD C e σ (.lf (.int m)) fi)(o:m<=1000000):yK C (.Call (.Name "range" p) [e] [] d) σ (.IB 0 m) fi:=fun F Ω H Q h=>by
 refine wpAny_Call_ofName (wp_mono (hr F Ω H) fun A s' z=>(dW z ?_));clear z;intro w u H1 g f;subst f;have g:=g.inv;subst g;show wpAny _ _ (callWith d (.type "range") [] (backTo d (starEach [e] F.env)) []) _ _ _;refine eL ((ib (by refine eL all_cons (eL hp ?_);rfl)).2.2) (eL (dR hp) ?_);refine PyProof.Rows.callWith_type rfl (Calls.evalArgs_plain (Calls.spliced_cons (wp_mono (j F w H1) fun B s₁ z=>Calls.spliced_nil (dW z ?_))));clear z;intro i v l k f;subst f;refine cN k.leaf.inv fun tN q=>?_;clear k j hr;subst q
 refine call_range_1 (wpAny_pyIter_range (IsRange.new ..) (small_one (by decide) (by decide) (Int.le_trans (by decide) (natCast_nonneg m)) (Int.lt_of_le_of_lt (ofNat_le.mpr o) (by decide))) ?_);have x:Builtin.Range.rangeSize 0 m 1=((m:Int)-((0:Nat))):=by rw [rangeSize_one];split<;>lia
 refine h i _ (i.s.toks+1+1) _ (u.trans v) l (ag (aE _) (aE _)) (fun _ _ e=>aP _ (aP _ e)) (cK _ (by show _<=(i.h.push _).objs.size;exact eL (Heap.size_push ..) (aE _))) ?_;show IsRangeIter _ _ _ _ _;exact eR x (bp _ rfl)
theorem QI(h:Za C elt y j n it σ τ):zN C elt iter y py sc pos j it σ τ:=fun F dX Ω a D Z J o O H S r hD=>by
 refine codeAny_compLoop_tests (D2 C F dX a D elt y j τ) (fun n s i=>?_) n (kj Ω σ it ⟨O,H,S,r,hD,h,rfl⟩);clear hD r S H O h;refine QW i ?_;clear i;intro Ω σ it w H S r hD h m;subst m;induction h with
 |stop f e=>
  exact bu ((kG H S r).of f _ fun h' t v d k q=>(q.Ol (J _ (w.fJ o d k) (e▸H.fJ S d k) (hD.eK (S.mo k))))) (fun _ _ x=>x) fun _ _ x=>x.elim
 |turn f N c g h=>
  clear σ J;rcases n with _|n
  .exact h.elim
  refine bu ((kG H S r).of f _ fun h' t v d k q=>?_) (fun _ _ x=>x) fun _ _ x=>x.elim
  have X:=w.fJ o d k;have A:=H.fJ S d k;have G:=hD.eK (S.mo (t:=t) k);refine q.NY fun u E hr S2=>((lY E).go .refl A (by unfold fM;refine eL N ?_;rfl) fun gR _ L p _=>wpAny_tests_nil (bu (c F gR p) (fun vy s4 z=>?_) fun _ _ x=>x.elim))
  refine dW z ?_;intro vn M T XI m;clear p z E A d k q f N c w H S r hD o;subst m;refine(xC ((G.mono L).mono M) XI).go .refl T g fun V _ U P _=>?_;have l:=(L.trans M).trans U
  have B:=S2.step l;exact⟨n,bF n,V,_,_,X.trans l,P,B.1,hr.mono l.mo B.2,G.mono l,h,rfl⟩
theorem iD.comp(w:sO sc=true)(p:fE e=true)(v:yK C e σ it fi)(T:zN C elt e y py sc pos fi.obj.length it ⟨sc,[],fi.obj++[.list []],fi.dep⟩ τ):iD C (.ListComp elt [⟨.Name y py,e,[],0⟩] sc pos) σ (.obj fi.obj.length) ⟨fi.sc,fi.loc,τ.obj,fi.dep⟩:=fun F Ω H=>by
 have Y:=rO w;refine wpAny_ListComp Y.free Y.kind Y.loc (v F Ω H _ fun J f G a x d l k A hr=>(wpAny_newObj_type (wpAny_newFunctionEnv Y.cell (fun _ h=>iS h) (fun L o B=>?_) Y.kind))) (iA p);have i:=tR f { cls:=.type "list",dict:=none,data:=.seq ([]).toArray };have E:(f.push { cls:=.type "list",dict:=none,data:=.seq ([]).toArray }).get? f.objs.size=some (listOf ([]).toArray 0):=bp _ rfl;have j:=fun b o' e=>B.extBut b o' (ne_of_lt (qk e)) (aP _ e)
 exact rF d l (ah _) A (cK _ (ah _)) (cK _ (i▸aE _)) (by exact eL i (succ_ne_self _)) k (fun b o' e=>j b o' (aP _ e)) hr (j _ _ E) o ⟨rfl,Y.kind,rfl,d.env.gl,d.env.bl⟩ T fun cb D w' g z=>by
  exact bW (g.fr) fun m u _=>⟨m,u,fun f q=>(yu d D w' g q z).from x⟩
end
end
structure G6 where
 kn:Bool
 loc:List (Str×AV)
 gl:List (Str×AV)
 obj:List AO
def VB(f:Fl)(v:AV):Bool:=match f with
 |.ret a=>a.yL v
 |_=>false
theorem jU{α:Type}{o:Option α}{a:α}(e:(bif c then o else none)=some a):c=true/\o=some a:=by
 rcases c with⟨⟩
 .exact cX e
 .exact ⟨rfl,e⟩
section
theorem yW(x)(v)(l):cY θ (put x v l)=put x (v.sub θ) (cY θ l):=by
 induction l with
 |nil=>rfl
 |cons p l a=>
  show cY θ (if p.1==x then _ else _)=if p.1==x then _ else _;rcases p.1==x with _|_
  .exact az ((p.1,p.2.sub θ)::·) a
  .rfl
mutual
theorem AV.mB:∀x:AV,(x.ed a).sub θ=(x.sub θ).ed a
 |.lf x=>rfl
 |.tup xs=>az AV.tup (hJ xs)
 |.cv f x=>az (AV.cv f) (AV.mB x)
 |.obj i=>rfl
 |.top v=>rfl
theorem hJ:∀xs:List AV,subs θ (dE a xs)=dE a (subs θ xs)
 |[]=>rfl
 |x::xs=>by show(x.ed a).sub θ::_=_;refine eL (AV.mB x) (eL (hJ xs) ?_);rfl
end
theorem uW(l:List (Str×AV)):cY θ (cE a l)=cE a (cY θ l):=by
 unfold cY cE;exact eL bh (eL bh (bG fun p _=>az (p.1,·) (AV.mB p.2)))
theorem AO.mB(o:AO):(o.ed a).sub θ=(o.sub θ).ed a:=by
 rcases o with xs|es|⟨c,as⟩|⟨o,xs⟩|⟨xs,k,zs⟩
 .exact az AO.list (hJ xs)
 .exact az AO.dict (uW es)
 .exact az (AO.inst c) (uW as)
 .exact az (AO.dy o) (hJ xs)
 .exact az AO.list (eL oW (eL (hJ ..) (eL (hJ ..) rfl)))
end
def JL(f g:Fl):Bool:=match f with
 |.next=>match g with |.next=>true|_=>false
 |.brk=>match g with |.brk=>true|_=>false
 |.cont=>match g with |.cont=>true|_=>false
 |.ret a=>VB g a
noncomputable def rE:List AO->List AO->Bool
 |[],y=>y.isEmpty
 |x::xs,y=>match y with|[]=>false|z::zs=>x.yL z&&rE xs zs
def FU(r:St)(loc:List (Str×AV))(obj:List AO):Bool:=ji r.loc loc&&rE r.obj obj
def qK(R:Rc)(b:List Stmt)(σ:St)(fl:Fl)(loc:List (Str×AV))(obj:List AO):Bool:=dg (R.fL b σ) (fun r=>JL r.1 fl&&FU r.2 loc obj) false
def CP(R:Rc)(b:Stmt)(σ:St)(loc:List (Str×AV))(obj:List AO):Bool:=dg (R.ex b σ) (fun r=>JL r.1 .next&&FU r.2 loc obj) false
def Mj(R:Rc)(x:Expr)(σ:St)(c:Bool):Bool:=dg (R.gO x σ) (fun r=>(r.1==c)&&FU r.2 σ.loc σ.obj) false
def Eo(R:Rc)(x:Expr)(σ:St)(a:AV):Bool:=dg (R.ev x σ) (fun r=>r.1.yL a&&FU r.2 σ.loc σ.obj) false
def kS(R:Rc)(b:List Stmt)(σ:St)(fl:Fl)(obj:List AO):Bool:=dg (R.fL b σ) (fun r=>JL r.1 fl&&rE (r.2.obj.take obj.length) obj) false
section
variable{C:Ctx}{θ:Nat->bQ}{Φ:List Fact}{Es:List Ent}{N:Nat}{σ τ:St}{fl:Fl}{loc:List (Str×AV)}{obj:List AO}{b:List Stmt}{s:Stmt}{x:Expr}{c:Bool}{a:AV}
theorem jZ:∀x y,rE x y=true->x=y
 |[],y,h=>by rcases y with⟨⟩<;>first|rfl|exact(jD h)
 |x::xs,y,h=>by rcases y with⟨⟩<;>first|(have h:=ab.mp h;rw [AO.gI h.1,jZ xs _ h.2])|exact(jD h)
theorem ti(h:JL f g=true):f=g:=by
 induction f with
 |ret a=>rcases g with⟨⟩<;>first|rw [AV.gI _ _ h]|exact(jD h)
 |_=>rcases g with⟨⟩<;>first|rfl|exact(jD h)
theorem pA(h:FU r loc obj=true):r.loc=loc/\r.obj=obj:=have h:=ab.mp h;⟨iu _ _ h.1,jZ _ _ h.2⟩
theorem Dt(G:Good C)(S:Sy C θ Φ Es)(e:(fk C.K Φ Es N).ex s σ=some (fl,τ)):lA C s (σ.sub θ) (fl.sub θ) (τ.sub θ):=fun F Ω H=>
 wp_mono (((um G S).ex F Ω s Ω .refl σ (H.into S.lit)).of e) fun f s' z=>by
  exact dW z fun d g h q e=>⟨d,g,h.out,q.out,e⟩
noncomputable abbrev St.to(σ:St)(loc:List (Str×AV))(obj:List AO):St:=⟨σ.sc,loc,obj,σ.dep⟩
theorem gH(G:Good C)(S:Sy C θ Φ Es)(h:qK (fk C.K Φ Es N) b σ fl loc obj=true):dz C b (σ.sub θ) (fl.sub θ) ((σ.to loc obj).sub θ):=by
 refine bW (cH h) fun d e h=>?_;obtain⟨f,r⟩:=d
 have h:=ab.mp h;obtain rfl:=ti h.1;refine bY (pA h.2) fun d g=>?_
 clear h;subst d;clear h;subst g;exact(dY G S e).fix
theorem pP(G:Good C)(S:Sy C θ Φ Es)(h:CP (fk C.K Φ Es N) s σ loc obj=true):lA C s (σ.sub θ) .next ((σ.to loc obj).sub θ):=by
 refine bW (cH h) fun d e h=>?_;obtain⟨f,r⟩:=d
 have h:=ab.mp h;obtain rfl:=ti h.1;refine bY (pA h.2) fun d g=>?_
 clear h;subst d;clear h;subst g;exact fun F Ω H=>wp_mono (Dt G S e F Ω H) fun _ _ p=>p.fix H
theorem pI(G:Good C)(S:Sy C θ Φ Es)(h:Mj (fk C.K Φ Es N) x σ c=true):fx C x (σ.sub θ) c (σ.sub θ):=by
 refine bW (cH h) fun g e h=>?_;obtain⟨f,r⟩:=g
 have h:=ab.mp h;obtain rfl:=aC.mp h.1;refine bY (pA h.2) fun i j=>?_
 have t:=(tw G S e).fix;clear h e G S;obtain⟨sc,l,o,d⟩:=σ;clear h;obtain rfl:=i;clear h;obtain rfl:=j;exact t
theorem rT(G:Good C)(S:Sy C θ Φ Es)(h:Eo (fk C.K Φ Es N) x σ a=true):iD C x (σ.sub θ) (a.sub θ) (σ.sub θ):=by
 refine bW (cH h) fun g e h=>?_;obtain⟨f,r⟩:=g
 have h:=ab.mp h;obtain rfl:=AV.gI _ _ h.1;refine bY (pA h.2) fun i j=>?_
 have t:=(tX G S e).fix;clear h e G S;obtain⟨sc,l,o,d⟩:=σ;clear h;obtain rfl:=i;clear h;obtain rfl:=j;exact t
theorem dO(G:Good C)(S:Sy C θ Φ Es)(h:kS (fk C.K Φ Es N) b σ fl obj=true):cG C b (σ.sub θ) (fl.sub θ) (obj.map (AO.sub θ)):=by
 refine bW (cH h) fun d e h=>?_;obtain⟨f,r⟩:=d
 have h:=ab.mp h;obtain rfl:=ti h.1;refine dz.Xf (dY G S e) fun i o z=>?_
 rw [<-jZ _ _ h.2,aH,List.getElem?_take] at z;split at z
 .show (r.obj.map (AO.sub θ))[i]?=some o;exact eL aH z
 .exact cX z
theorem cG.cons(a:lA C s σ .next τ)(h:cG C b τ fl obj):cG C (s::b) σ fl obj:=fun F Ω H=>ai (nu (a F Ω H) fun e f d H1 q=>by
 refine q.jk ?_;exact wp_mono (h F e H1) fun _ _ p=>p.imp fun _ p=>⟨⟨d.trans p.1.w,p.1.ob,p.1.old,p.1.toks,p.1.fl⟩,p.2⟩)
end
structure Out(ι:Nat->Nat)(k:Nat)(s t' s':St):Prop where
 loc:s'.loc=cE ι t'.loc
 len:s'.obj.length+k=s.obj.length+t'.obj.length
 obj:∀i o,t'.obj[i]?=some o->s'.obj[ι i]?=some (o.ed ι)
 old:∀j,j<s.obj.length->(∀i,i<k->j≠ι i)->s'.obj[j]?=s.obj[j]?
 new:∀i,k<=i->ι i=s.obj.length+(i-k)
section
variable{Ω:Om}
theorem VR.gk(r:VR C Ω x v):x.gk Ω.n=true:=by
 induction r with
 |lf=>rfl
 |top=>rfl
 |obj i hi=>exact bo hi
 |cv f a x v e _ b=>exact b
 |tup xs d a e l s _ b=>
  show gY _ xs=true;refine eL (eC ..) (ak.mpr fun x c=>(cN (List.getElem?_of_mem c) fun i hi=>?_));exact b i x _ hi (ao (l▸(au.mp hi).1))
theorem de.gk{xs:List AV}{b:List Value}(r:de C Ω xs b):gY Ω.n xs=true:=by
 refine eL (eC ..) (ak.mpr fun x a=>(cN (List.getElem?_of_mem a) fun i hi=>?_));exact bW (r.get hi) fun v _ q=>q.gk
theorem F2.gk{β:Type}{P:Str×AV->β->Prop}(k:∀p b,P p b->p.2.gk Ω.n=true):∀ {es} {bs},F2 P es bs->mO Ω.n es=true:=by
 intro es bs h;induction h with
 |nil=>rfl
 |cons h _ a=>exact ab.mpr ⟨k _ _ h,a⟩
theorem gz.gk(r:gz C Ω a d o):o.gk Ω.n=true:=by
 rcases o with xs|es|⟨c,as⟩|⟨o,xs⟩|⟨xs,k,zs⟩
 .refine cw r fun f k e q l=>?_;exact q.gk
 .refine cS r fun j e q l=>?_;exact F2.gk (fun _ _ z=>z.2.gk) q
 ·(refine fq r fun ne e b=>?_;refine cw b fun i k m q l=>?_);exact F2.gk (fun _ _ z=>z.2.gk) q
 ·(refine bY r fun e b=>?_;refine cS b fun f k q l=>?_);exact q.gk
 .refine cw r fun f n e q l=>?_;have h:=q.gk
  rw [eC,all_append,all_append] at h;have g:=ab.mp h;show(gY _ xs&&gY _ zs)=true;refine eL (eC ..) (eL (eC ..) (eL g.1 (eL (ab.mp g.2).2 ?_)));rfl
theorem apart_new{h:Heap}(hp:(∃o,h.get? p.1=some o)/\∃o,h.get? p.2=some o)(d:h.get? q.1=none/\h.get? q.2=none):iU p q/\iU q p:=by
 refine bY hp fun i j=>(cN i fun k f=>(cN j fun l g=>?_))
 have a:=bX f d.1;have b:=bX f d.2;have c:=bX g d.1;have e:=bX g d.2;exact⟨⟨a,b,c,e⟩,a.symm,c.symm,b.symm,e.symm⟩
theorem Hr.frame(H:Hr C F Ω s)(S:Sub d s t)(O:Out d t.obj.length s N s')(X:s'.sc=s.sc)(hd:s'.dep=s.dep)(w:W F.L (Ω.small d t.obj.length) cb)(H':Rel C F.L cb N):
  ∃y,W F.L Ω y/\Hr C F y s'/\y.s=cb.s/\(∀i,i<Ω.n->y.ρ i=Ω.ρ i)/\∀x v,VR C cb x v->VR C y (x.ed d) v:=by
 have n0:s.obj.length=Ω.n:=H.rel.n;have A:t.obj.length<=cb.n:=w.le;have E:N.obj.length=cb.n:=H'.n;have lt:∀i,i<t.obj.length->d i<Ω.n:=fun i h=>H.rel.lt (S.obj i _ (ao h))
 let c:Xj:=fun j=>if j<Ω.n then Ω.ρ j else cb.ρ (t.obj.length+(j-Ω.n))
 have l:∀i,Ω.n<=i->i<Ω.n+(cb.n-t.obj.length)->t.obj.length+(i-Ω.n)<cb.n:=fun i a b=>by exact OO 0x11F5C346F5C426F0C135FC210 tt b (aq (cC 0x10F104F10 tt a)) (aq (cC 0x10F104F10 tt A))
 have f:∀j,j<Ω.n->c j=Ω.ρ j:=fun j h=>if_pos h
 have k:∀j,Ω.n<=j->c j=cb.ρ (t.obj.length+(j-Ω.n)):=fun j h=>if_neg (Nat.not_lt.mpr h)
 have J:Inj d cb.n cb ⟨c,Ω.n+(cb.n-t.obj.length),cb.s⟩:=by
  refine⟨fun i hi=>?_,fun i hi=>?_,rfl⟩
  .rcases aV i t.obj.length with q|q
   .exact aS (lt i q) (aK _ _)
   .refine eL (O.new i q) (eL n0 ?_);exact OO 0x11FC05C456F3C145F237F2C10 tt (aq (cC 0x10F104F10 tt A)) hi (aq (cC 0x10F104F10 tt q))
  .show c (d i)=_;rcases aV i t.obj.length with q|q
   .exact eL (f _ (lt i q)) ((w.same i q).symm)
   .rw [k _ (by exact eL (O.new i q) (eL n0 (aK _ _))),O.new i q,n0];congr 1;exact rj 0x12F4C036F4C326FC21C10 tt (aq (cC 0x10FC100 tt)) (aq (cC 0x10F104F10 tt q))
 have T:W F.L Ω ⟨c,Ω.n+(cb.n-t.obj.length),cb.s⟩:=⟨aK _ _,f,fun i U M=>by
   have M:i<Ω.n+(cb.n-t.obj.length):=M;show Ω.h.get? (c i).1=none/\Ω.h.get? (c i).2=none;refine eL (k i U) ?_;exact w.fresh _ (aK _ _) (l i U M),w.alive,fun b ob e nl no=>w.keep b ob e nl fun i hi=>no (d i) (lt i hi),w.ru,w.sm⟩
 have P:∀x v,VR C cb x v->VR C ⟨c,Ω.n+(cb.n-t.obj.length),cb.s⟩ (x.ed d) v:=fun x v r=>r.grow J r.gk
 refine⟨⟨c,Ω.n+(cb.n-t.obj.length),cb.s⟩,T,⟨⟨?_,?_,fun j ob e=>?_,fun i j hi B ne=>?_,fun i hi=>?_,H'.old,H'.uK,fun i hi=>?_,fun i hi=>?_,H'.toks⟩,hd▸H.room,X▸H.env⟩,rfl,f,P⟩
 .have:=O.len;exact ZS 0x12FC2646F656FC05C347F1C326F10 tt E (aq (cC 0x10F104F10 tt A)) this n0
 .refine cS (H'.fr) fun m V a b=>⟨m,V,fun x av e=>?_,fun x e=>(b x (map_eq_none_iff.mp (eR (ij ..) (eR O.loc e))))⟩
  .refine bW (aQ.mp (eR (ij ..) (eR O.loc e))) fun Z q G=>?_;subst G
   exact(a x Z q).imp fun v z=>⟨z.1,P _ _ z.2⟩
 .by_cases q:∃i,i<N.obj.length/\j=d i
  .refine bW q ?_;clear q;intro i hi G;subst G;have g:=O.obj i _ (ao hi);rw [g] at e
   (injection e with zz;subst zz)
   have g:=H'.ob i _ (ao hi);exact eL (J.at_ i (E▸hi)) (g.grow J g.gk)
  .have u:j<s.obj.length:=by
    rcases aV j s.obj.length with z|z
    .exact z
    .have:=O.len;exact absurd ⟨t.obj.length+(j-s.obj.length),OO 0x11F5C246FC53C416F0C325F10 tt ((au.mp e).1:j<s'.obj.length) (aq (cC 0x10F104F10 tt z)) this,eL (O.new _ (aK _ _)) (rj 0x12FC0347F4C327FC21C10 tt (aq (cC 0x10FC100 tt)) (aq (cC 0x10F104F10 tt z)))⟩ q
   have no:∀i,i<t.obj.length->j≠d i:=fun i hi z=>q ⟨i,kF 0x11F035F234F127F10 tt E A hi,z⟩
   rw [O.old j u no] at e;have u:j<Ω.n:=n0▸u;show gz C _ (c j).1 (c j).2 ob;refine eL (f j u) ?_;have D:∀i,i<t.obj.length->iU (Ω.ρ j) (Ω.ρ (d i)):=fun i hi=>H.rel.inj j (d i) u (lt i hi) (no i hi)
   have nl:=H.rel.eu j u;exact(H.rel.ob j ob e).mono T.mo (fun o q=>w.keep _ o q (Ne.symm nl.1) fun i hi=>⟨(D i hi).1,(D i hi).2.1⟩) fun o q=>w.keep _ o q (Ne.symm nl.2) fun i hi=>⟨(D i hi).2.2.1,(D i hi).2.2.2⟩
 .have hi:i<Ω.n+(cb.n-t.obj.length):=hi;have B:j<Ω.n+(cb.n-t.obj.length):=B;show iU (c i) (c j);rcases aV i Ω.n with p|p<;>rcases aV j Ω.n with q|q
  .exact eL (f i p) (eL (f j q) (H.rel.inj i j p q ne))
  .exact eL (f i p) (eL (k j q) ((apart_new (H.rel.hi i p) (w.fresh _ (aK _ _) (l j q B))).1))
  .exact eL (k i p) (eL (f j q) ((apart_new (H.rel.hi j q) (w.fresh _ (aK _ _) (l i p hi))).2))
  .exact eL (k i p) (eL (k j q) (H'.inj _ _ (l i p hi) (l j q B) fun z=>ne ((aq p).symm.trans ((az (· +Ω.n) (Nat.add_left_cancel z)).trans (aq q)))))
 .have hi:i<Ω.n+(cb.n-t.obj.length):=hi;show F.L≠(c i).1/\F.L≠(c i).2;rcases aV i Ω.n with p|p
  .exact eL (f i p) (H.rel.eu i p)
  .exact eL (k i p) (H'.eu _ (l i p hi))
 .have hi:i<Ω.n+(cb.n-t.obj.length):=hi;show C.h₀.get? (c i).1=none/\C.h₀.get? (c i).2=none;rcases aV i Ω.n with p|p
  .exact eL (f i p) (H.rel.lo i p)
  .exact eL (k i p) (H'.lo _ (l i p hi))
 .have hi:i<Ω.n+(cb.n-t.obj.length):=hi;show(∃o,cb.h.get? (c i).1=some o)/\∃o,cb.h.get? (c i).2=some o;rcases aV i Ω.n with p|p
  .exact eL (f i p) (⟨(H.rel.hi i p).1.elim fun o=>w.alive _ o,(H.rel.hi i p).2.elim fun o=>w.alive _ o⟩)
  .exact eL (k i p) (H'.hi _ (l i p hi))
end
section
open PySem.Builtin PySem.Builtin.Str PySem.StrLaws
noncomputable def dD(a b:List Nat):Nat->List Nat->List Nat
 |0,s=>s
 |n+1,s=>match s with
  |[]=>[]
  |c::r=>if a.isPrefixOf (c::r) then b++dD a b n ((c::r).drop a.length) else c::dD a b n r
def dP(a b s:List Nat):List Nat:=dD a b (s.length+1) s
noncomputable def fZ(a:Nat)(s:List Nat):Nat:=s.countP (· ==a)
noncomputable def cR(a:Nat):List Nat->Int
 |[]=>-1
 |c::r=>let k:=cR a r
  if k>=0 then k+1 else if c==a then 0 else -1
theorem str_len(x:Str):x.length=x.cps.toList.length:=by rfl
theorem JS(y l:List Nat):(l.take y.length==y)=y.isPrefixOf l:=by
 rw [Bool.eq_iff_iff,aC,List.isPrefixOf_iff_prefix,List.prefix_iff_eq_take];exact eq_comm
theorem Cw(x y)(i):Builtin.Str.subAt x y i=y.cps.toList.isPrefixOf (x.cps.toList.drop i):=by
 exact eL (subAt_eq ..) (eL (str_len y) (eL (JS ..) rfl))
theorem yE(hw:1<=y.length)(i):StrLaws.At x y x.length i↔y.cps.toList.isPrefixOf (x.cps.toList.drop i)=true:=by
 unfold StrLaws.At;refine eL (Cw ..) ⟨fun h=>h.2,fun h=>⟨?_,h⟩⟩;have:=(List.isPrefixOf_iff_prefix.mp h).length_le;rw [bw] at this;rw [str_len,str_len] at *;exact kF 0x10F2C314F036F2C10 tt (tW (cC 0x11F184F094F10 tt this hw)) this
theorem eV(a b:List Nat)(n c:Nat)(r:List Nat):dD a b (n+1) (c::r)=if a.isPrefixOf (c::r) then b++dD a b n ((c::r).drop a.length) else c::dD a b n r:=rfl
theorem iH(a c)(r):cR a (c::r)=if cR a r>=0 then cR a r+1 else if c==a then 0 else -1:=rfl
theorem xR(a b):∀n s,(∀i,a.isPrefixOf (s.drop i)=false)->dD a b n s=s:=by
 intro n;induction n with
 |zero=>exact fun _ _=>rfl
 |succ n e=>
  intro s h;rcases s with _|⟨c,r⟩
  .rfl
  have d:=h 0;rw [drop_zero] at d;refine eL (eV ..) (eL d (eL (e r fun i=>h (i+1)) ?_));rfl
theorem xI(a b)(e:a≠[]):∀m n s,(∀i,i<m->a.isPrefixOf (s.drop i)=false)->a.isPrefixOf (s.drop m)=true->dD a b (n+m+1) s=s.take m++(b++dD a b n (s.drop (m+a.length))):=by
 intro m;induction m with
 |zero=>
  intro n s _ h;rw [drop_zero] at h;rcases s with _|⟨c,r⟩
  .induction a with
   |nil=>exact absurd rfl e
   |cons c r=>exact(aA h).elim
  .refine eL (show n+0+1=n+1 from rfl) (eL (eV ..) (eL h ?_));simp
 |succ m g=>
  intro n s d h;rcases s with _|⟨c,r⟩
  .induction a with
   |nil=>exact absurd rfl e
   |cons c r=>simp [List.isPrefixOf] at h
  .have f:=d 0 (succ_pos _);rw [drop_zero] at f;have:=g n r (fun i hi=>d (i+1) (cC 0x11FC91C905F10 tt hi)) h;refine eL (show n+(m+1)+1=(n+m+1)+1 by exact cC 0x12FC9C9C10C9CC910 tt) (eL (eV ..) (eL f (eL this (eL (show m+1+a.length=(m+a.length)+1 by exact cC 0x12FC9C10C1C90 tt) ?_))));rfl
theorem Cz(z p):(glued z [p]).cps.toList=p.cps.toList:=by
 unfold glued;rfl
theorem CG(z p q)(r):(glued z (p::q::r)).cps.toList=p.cps.toList++(z.cps.toList++(glued z (q::r)).cps.toList):=by
 have key:∀(l:List Str) a b,(l.foldl (fun c p=>c++z.cps++p.cps) (a++b))=a++l.foldl (fun c p=>c++z.cps++p.cps) b:=by
  intro l;induction l with
  |nil=>intro a b;rfl
  |cons p l d=>intro a b;simp only [foldl_cons];exact eL (Array.append_assoc ..) (eL (Array.append_assoc ..) (eL (d ..) (eL (Array.append_assoc ..) rfl)))
 unfold glued;simp only [List.drop_succ_cons,drop_zero,List.headD_cons,foldl_cons];refine eL (key ..) ?_;simp
theorem yk(x y z:Str)(hw:1<=y.length):∀g a f n,a<=x.length->x.length+1<=n+a->ChainG x y x.length a g f->(∀k,f<=k->¬StrLaws.At x y x.length k)->
  (glued z (partsFrom x y.length a g)).cps.toList=dD y.cps.toList z.cps.toList n (x.cps.toList.drop a):=by
 intro g;induction g with
 |nil=>
  intro a f n u d h j;have e:=h;subst e;rw [xR]
  .show (glued z [strSub x f x.length]).cps.toList=_;exact eL (Cz ..) (eL (strSub_toList ..) (eL (str_len ..) (take_of_length_le (by simp))))
  .intro i;refine eL br ?_;rcases q:y.cps.toList.isPrefixOf (x.cps.toList.drop (f+i)) with _|_
   .rfl
   .exact absurd ((yE hw _).mpr q) (j _ (aK _ _))
 |cons c r m=>
  intro a f n u d h j;refine tB h fun b o t v=>?_
  have l:=o.1;have s:=str_len y;have w:y.cps.toList≠[]:=by intro z;rw [s,z] at hw;simp at hw
  refine uc (partsFrom_ne x y.length (c+y.length) r) fun p q e=>?_;have m:=m (c+y.length) f (n-(c-a)-1) (by assumption) (x5 0x10FCC062C974FC53C976F6C544FC4134FC9214F09 tt hw uo uo (aq (cC 0x10F104F10 tt b)) d) v j
  show(glued z (strSub x a c::partsFrom x y.length (c+y.length) r)).cps.toList=_;refine eL e (eL (CG ..) (eR e (eL m (eL (strSub_toList ..) ?_))));have:=xI y.cps.toList z.cps.toList w (c-a) (n-(c-a)-1) (x.cps.toList.drop a) (fun i hi=>?_) ?_
  .rw [show n-(c-a)-1+(c-a)+1=n by exact kF 0x12F3C9C206F3C216F1C90 tt (aq (ZS 0x10F394FC65C926F0C647F5C434F2C10 tt l (aq (OO 0x10F156F3C254F0C434FC21C90 tt d l (aq (cC 0x10F104F10 tt b)))) (aq (cC 0x10F104F10 tt b)) d)) (aq (OO 0x10F156F3C254F0C434FC21C90 tt d l (aq (cC 0x10F104F10 tt b))))] at this;exact eL this (eL br (eR s (eL (show a+(c-a+y.length)=c+y.length by exact kF 0x12FC32CC3016F2C10 tt (aq (cC 0x10F104F10 tt b))) rfl)))
  .refine eL br ?_;rcases q:y.cps.toList.isPrefixOf (x.cps.toList.drop (a+i)) with _|_
   .rfl
   .exact absurd ((yE hw _).mpr q) (t _ (aK _ _) (kF 0x11F3C026F3C215F10 tt hi (aq (cC 0x10F104F10 tt b))))
  .exact eL br (eL (show a+(c-a)=c by exact dN 0x12F2C016F2C10 tt (aq (cC 0x10F104F10 tt b))) ((yE hw _).mp o))
theorem ya(x y z)(hw:1<=y.length):(glued z (partsBetween x (occurrences x y 0 x.length (x.length+1)) y.length)).cps.toList=dP y.cps.toList z.cps.toList x.cps.toList:=by
 exact bW (occ_tight x y hw) fun f a b=>(eL (partsBetween_eq ..) (eL (yk x y z hw _ 0 f (x.length+1) (zero_le _) (gC 0x10FC8C90C90 tt) a b) (eL (str_len ..) (eL drop_zero rfl))))
theorem uM(c):∀l,(∀k:Nat,l[k]?≠some c)->fZ c l=0:=by
 intro l h;unfold fZ;rw [List.countP_eq_zero];intro a d e;refine cN (List.getElem?_of_mem d) fun k b=>?_
 have:a=c:=by simpa using e
 exact h k (this▸b)
theorem uU(c):∀m l,(∀k,k<m->l[k]?≠some c)->l[m]?=some c->fZ c l=1+fZ c (l.drop (m+1)):=by
 intro m;induction m with
 |zero=>
  intro l _ h;rcases l with _|⟨d,l⟩
  .exact cX (getElem?_nil.symm.trans h)
  have:d=c:=by exact bB h
  subst this;show List.countP _ _=1+List.countP _ _;simp;exact gC 0x12FC09C90 tt
 |succ m e=>
  intro l a h;rcases l with _|⟨d,l⟩
  .exact cX (getElem?_nil.symm.trans h)
  have f:d≠c:=by have:=a 0 (succ_pos _);exact fun z=>this (az some z)
  have:=e l (fun k b=>by have:=a (k+1) (cC 0x11FC91C905F10 tt b);exact this) (by exact h);unfold fZ at *;exact eL (List.countP_cons_of_neg (by simpa using f)) (eL this (eL List.drop_succ_cons rfl))
theorem uk(x)(c hi i)(h:hi<=x.length):StrLaws.At x ⟨#[c]⟩ hi i↔(x.cps.toList.take hi)[i]?=some c:=by
 unfold StrLaws.At;have key:=subAt_one x c i;rw [(rfl:(⟨#[c]⟩:Str).length=1)] at key ⊢;constructor
 .rintro ⟨a,d⟩
  exact eL (getElem?_take_of_lt (by assumption)) (key.mp ⟨by exact dN 0x10F1C924F0C924F10 tt h a,d⟩)
 .intro q;have b:i<hi:=by
   rcases aV i hi with z|z
   .exact z
   .exact cX (eR (aT (by simp;exact dN 0x10F124F024F10 tt z (min_le_left _ _))) q)
  exact⟨by assumption,(key.mpr (eR (getElem?_take_of_lt b) q)).2⟩
theorem vz(x:Str)(c hi)(h:hi<=x.length):∀(b:List Nat) a f,ChainG x ⟨#[c]⟩ hi a b f->(∀k,f<=k->¬StrLaws.At x ⟨#[c]⟩ hi k)->b.length=fZ c ((x.cps.toList.take hi).drop a):=by
 intro b;induction b with
 |nil=>
  intro a f g j;have e:=g;clear g;subst e;rw [uM]
  .rfl
  .intro k q;exact j _ (by exact aK _ _) ((uk x c hi _ h).mpr (eR getElem?_drop q))
 |cons d r i=>
  intro a f g j;refine tB g fun l n m o=>?_
  have i:=i _ f o j;have e:(⟨#[c]⟩:Str).length=1:=rfl;rw [e] at i;rw [uU c (d-a),br,show a+(d-a+1)=d+1 by exact dN 0x12FC92CC9016F2C10 tt (aq (cC 0x10F104F10 tt l)),<-i,ay]
  .exact gC 0x12FC09C90 tt
  .intro k p q;exact m _ (by exact aK _ _) (by exact kF 0x11F3C026F3C215F10 tt p (aq (cC 0x10F104F10 tt l))) ((uk x c hi _ h).mpr (eR getElem?_drop q))
  .exact eL getElem?_drop (eL (show a+(d-a)=d by exact dN 0x12F2C016F2C10 tt (aq (cC 0x10F104F10 tt l))) ((uk x c hi _ h).mp n))
theorem CA(x)(c)(hi)(h:hi<=x.length):(occurrences x ⟨#[c]⟩ 0 hi (x.length+1)).length=fZ c (x.cps.toList.take hi):=by
 refine eL (occ_eq ..) ?_;have key:=tight_run x ⟨#[c]⟩ hi (x.length+1) 0 (ah 1) (hi+1-0) 0 ((#[]),0) rfl (fun k _ h=>by exact False.elim (gC 0x15F80 tt h)) (by simp;assumption);have:=vz x c hi h _ _ _ key.1 (fun k b a=>key.2 k b (by have:=a.1;have e:(⟨#[c]⟩:Str).length=1:=rfl;rw [e] at this;exact dN 0x11FC0824F1C927FC91C80 tt (aq (gC 0x10FC908 tt)) this) a);exact this
theorem Cc(l:List Nat)(c):∀m s last,l.length<=s+m->qC ((range' s m).foldl (fun last i=>if l[i]?=some c then some i else last) last)=if cR c (l.drop s)>=0 then(s:Int)+cR c (l.drop s) else qC last:=by
 intro m;induction m with
 |zero=>
  intro s last h;exact eL (drop_eq_nil_of_le (by assumption)) ((if_neg (show ¬(-1)>=0 by decide)).symm)
 |succ m b=>
  intro s last h;refine eL List.range'_succ (eL foldl_cons (eL (b (s+1) _ (by exact dN 0x10FC2C9104FCC9210 tt h)) ?_));rcases aV s l.length with a|a
  .refine eL (List.drop_eq_getElem_cons a) (eL (ao a) (eL (iH ..) ?_));by_cases q:cR c (l.drop (s+1))>=0
   .refine eL (if_pos q) (eL (if_pos q) (eL (if_pos (Int.le_trans q (Int.le_add_of_nonneg_right (by decide)))) ?_));exact(Int.add_assoc (s) 1 _).trans (az ((s:Int) + ·) (Int.add_comm 1 _))
   .refine eL (if_neg q) (eL (if_neg q) ?_);by_cases e:l[s]=c
    .simp [e,show qC (some s)=s from rfl]
    .simp [e]
  .refine eL (aT a) (eL (drop_eq_nil_of_le (by exact cC 0x10FC9104F10 tt a)) (eL (drop_eq_nil_of_le (by assumption)) ?_));simp [show cR c [] = -1 from rfl]
theorem DF(x:Str)(c)(hi)(h:hi<=x.length):qC (lastOccurrence x ⟨#[c]⟩ 0 hi)=cR c (x.cps.toList.take hi):=by
 have key:=Cc (x.cps.toList.take hi) c (hi+1) 0 none (by simp;exact cC 0x10FC9104F10 tt (min_le_left _ _));have e:lastOccurrence x ⟨#[c]⟩ 0 hi=(range' 0 (hi+1)).foldl (fun last i=>if(x.cps.toList.take hi)[i]?=some c then some i else last) none:=by
  unfold lastOccurrence;simp only [Std.Legacy.Range.forIn_eq_forIn_range',Std.Legacy.Range.size,Nat.sub_zero,Nat.add_sub_cancel,Nat.div_one,aW,decide_eq_true_eq,pure_bind,Id.run_bind,Id.run_pure];generalize (none:Option Nat)=last;generalize range' 0 (hi+1)=l;induction l generalizing last with
  |nil=>rfl
  |cons i l a=>
   have:=uk x c hi i h;unfold StrLaws.At at this;refine eL (List.forIn_cons ..) (eL foldl_cons ?_);by_cases q:(x.cps.toList.take hi)[i]?=some c
   .exact eL (if_pos q) (eL (if_pos (this.mpr q)) (a _))
   .exact eL (if_neg q) (eL (if_neg fun z=>q (this.mp z)) (a _))
 refine eL e (eL key (eL drop_zero ?_));have low:∀l,cR c l>=-1:=by
  intro l;induction l with
  |nil=>exact Int.le_refl _
  |cons d r a=>refine eL (iH ..) ?_;split;exact Int.le_trans a (Int.le_add_of_nonneg_right (by decide));split<;>decide
 have:=low (x.cps.toList.take hi);split
 .simp
 .exact Int.le_antisymm this (Int.le_of_lt_add_one (Int.lt_of_not_ge ‹_›))
theorem HE{a0:Nat}{a b:List Nat}:∀n s,s.length<n->a0∉s->dD (a0::a) b n s=s:=by
 intro n;induction n with
 |zero=>exact fun s h _=>rfl
 |succ n g=>
  intro s h d;rcases s with _|⟨c,r⟩
  .rfl
  have f:(a0==c)=false:=by
   rw [aN];intro e;exact d (by rw [e];simp)
  have i:(a0::a).isPrefixOf (c::r)=false:=by
   show((a0==c)&&a.isPrefixOf r)=false;refine eL f ?_;rfl
  show(if(a0::a).isPrefixOf (c::r) then _ else c::dD (a0::a) b n r)=_;exact eL i (eL (if_neg (by simp)) (eL (g r (by simpa using h) (fun m=>d (by simp [m]))) rfl))
theorem vH(h:a0∉s):dP (a0::a) b s=s:=HE _ _ (ah _) h
theorem CF:∀n s,s.length<n->dD [a] b n s=s.flatMap fun c=>if c=a then b else[c]:=by
 intro n;induction n with
 |zero=>exact fun s h=>a7 h
 |succ n d=>
  intro s h;rcases s with _|⟨c,r⟩
  .rfl
  have hr:=d r (by exact Nat.lt_of_succ_lt_succ h);show(if([a]).isPrefixOf (c::r) then b++dD [a] b n ((c::r).drop 1) else c::dD [a] b n r)=_;by_cases e:c=a
  .subst e;refine eL (if_pos (by simp [List.isPrefixOf])) (eL flatMap_cons (eL (if_pos rfl) ?_));show b++dD [c] b n r=_;exact eL hr rfl
  .refine eL (if_neg (by simp [List.isPrefixOf,Ne.symm e])) (eL flatMap_cons (eL (if_neg e) (eL hr ?_)));rfl
theorem hH:dP [a] b s=s.flatMap fun c=>if c=a then b else[c]:=CF _ _ (ah _)
theorem Rh(a b):∀s:List Nat,(s.flatMap fun c=>if c=a then[b] else[c])=s.map fun c=>if c=a then b else c:=by
 intro s;induction s with
 |nil=>
  exact rfl
 |cons c r d=>
  refine eL flatMap_cons (eL d (eL map_cons ?_));split<;>rfl
theorem Ma(h:13∉s):dP [13] [10] (dP [13,10] [10] s)=s:=by
 exact eL (vH h) (eL (vH h) rfl)
theorem IP{s:List Nat}:13∉dP [13] [10] s:=by
 refine eL hH (eL (Rh ..) ?_);simp only [bL,not_exists,not_and];intro x _ e;split at e<;>lia
theorem kz{a0:Nat}{a:List Nat}:∀(n:Nat) (s:List Nat),(dD (a0::a) [10] n s).length<=s.length/\∀c∈dD (a0::a) [10] n s,c=10\/c∈s:=by
 intro n;induction n with
 |zero=>exact fun s=>⟨ah _,fun c h=>Or.inr h⟩
 |succ n e=>
  intro s;rcases s with _|⟨c,r⟩
  .exact ⟨ah _,fun c h=>Or.inr h⟩
  show(if(a0::a).isPrefixOf (c::r) then[10]++dD (a0::a) [10] n ((c::r).drop (a0::a).length) else c::dD (a0::a) [10] n r).length<=_/\∀x∈(if(a0::a).isPrefixOf (c::r) then[10]++dD (a0::a) [10] n ((c::r).drop (a0::a).length) else c::dD (a0::a) [10] n r),_;split
  .refine bY (e ((c::r).drop (a0::a).length)) fun d f=>?_;have g:((c::r).drop (a0::a).length).length<=r.length:=by exact eL bw (eL ay (eL ay (ag (Nat.le_of_eq (Nat.add_sub_add_right ..)) (sub_le _ _))))
   refine⟨by
    refine eL aa ?_;exact rj 0x10F1C404F344F237FC9216F90 tt (rfl:([10]:List Nat).length=1) (rfl:(c::r).length=r.length+1) g d,fun x b=>?_⟩
   clear g d e;rcases bg.mp b with b|b
   .left;exact aB.mp b
   .rcases f x b with h|h
    .exact Or.inl h
    .exact Or.inr (List.mem_of_mem_drop h)
  .refine bY (e r) fun d f=>⟨by exact eL ay (eL ay (cC 0x10FC91C904F10 tt d)),fun x b=>?_⟩
   rcases aU.mp b with b|b
   .right;refine eL b ?_;exact .head _
   .rcases f x b with h|h
    .exact Or.inl h
    .exact Or.inr (by simp [h])
end
section
open PySem.Builtin PySem.Builtin.Str
def bodyOf(K:Frag)(f:Addr):List Stmt:=dg (fnAt K f) (·.2) []
def mH(K:Frag)(f:Addr):Scope:=dg (fnAt K f) (·.1.scope) default
noncomputable def eA(l:List Stmt)(i:Nat):Stmt:=(l[i]?).getD default
structure SG where
 y:Str
 py:Pos
 e:Expr
 b:List Stmt
 p:Pos
deriving Inhabited
noncomputable def MY(s:Stmt):SG:=match s with
 |.For (.Name y py) e b [] p=>⟨y,py,e,b,p⟩
 |_=>default
structure Xb where
 t:Expr
 b:List Stmt
 p:Pos
deriving Inhabited
noncomputable def SO(s:Stmt):Xb:=match s with
 |.While t b [] p=>⟨t,b,p⟩
 |_=>default
structure E1 where
 e:Expr
 yp:Pos
 p:Pos
deriving Inhabited
noncomputable def n8(s:Stmt):E1:=match s with
 |.Expr (.Yield (some e) yp) p=>⟨e,yp,p⟩
 |_=>default
def Zl(K:Frag)(u i:Addr)(k d:Nat):Ls:=
 let f:=MY (eA (bodyOf K u) k)
 let w:=SO (eA (bodyOf K i) 1)
 let w1:=SO (eA w.b 0)
 let w2:=SO (eA w.b 1)
 let y1:=n8 (eA w1.b 0)
 let y2:=n8 (eA w2.b 0)
 ⟨mH K u,mH K i,d,w.t,w1.t,y1.e,w2.t,y2.e,y1.yp,y1.p,w1.p,y2.yp,y2.p,w2.p,w.p,eA (bodyOf K i) 0,f.y,f.py,f.b,1⟩
noncomputable def ch(c:Nat):bQ:=.str ⟨#[c]⟩
noncomputable def tx(l:List Nat):bQ:=.str ⟨l.toArray⟩
noncomputable abbrev int(n:Nat):bQ:=.int (n:Int)
abbrev FT(θ:Nat->bQ)(f:Fact):Prop:=ew f.op (f.args.map (bQ.sub θ))=some (f.res.sub θ)
section
variable{a:List Nat}{y:Str}
theorem bR:Facts θ []:=fun _ h=>iS h
theorem bP(h:FT θ f)(t:Facts θ Φ):Facts θ (f::Φ):=fun g hg=>(aU.mp hg).elim (fun e=>e▸h) (t g)
theorem dI(h:Facts θ Φ)(t:Facts θ b):Facts θ (Φ++b):=fun g hg=>(bg.mp hg).elim (h g) (t g)
theorem Ge:(⟨a.toArray⟩:Str).length=a.length:=rfl
theorem zI(h:x.cps.toList=y.cps.toList):x=y:=by
 rcases x with⟨⟩;rcases y with⟨⟩
 exact az Str.mk (Array.toList_inj.mp h)
theorem xQ:(⟨a.toArray⟩++⟨b.toArray⟩:Str)=⟨(a++b).toArray⟩:=by
 apply zI;exact eL Array.toList_append rfl
theorem iw(h:a.length<=big):fN ⟨a.toArray⟩=some (tx a):=by
 unfold fN;refine eL (bo h:decide ((⟨a.toArray⟩:Str).length<=big)=true) ?_;rfl
theorem fX(h:(a++b).length<=big):ew .add [tx a,tx b]=some (tx (a++b)):=by
 show fN (⟨a.toArray⟩++⟨b.toArray⟩)=_;exact eL xQ (eL (iw h) rfl)
theorem kY:ew .len [tx a]=some (int a.length):=rfl
theorem jA(h:a≠[]):ew .truth [tx a]=some (.bool true):=by
 show some (bQ.bool (((⟨a.toArray⟩:Str).length:Int) !=0))=_;exact eL Ge (eL (bne_iff_ne.mpr (by have:=length_pos_iff.mpr h;exact fun z=>bC this (ofNat.inj z))) rfl)
theorem vQ(h:T[k]?=some c)(b:T.length<=big):ew .idx [tx T,int k]=some (ch c):=by
 have d:=(au.mp h).1;have hb:=b;show(bif !(decide ((k:Int) < -(2^63))||decide ((k:Int)>=2^63)) then((seqIndex? (k:Int) (⟨T.toArray⟩:Str).length).bind ((⟨T.toArray⟩:Str).cps[·]?)).map fun c=>bQ.str ⟨#[c]⟩ else none)=_;refine eL (bx (Int.not_lt.mpr m3)) (eL (bx (Int.not_le.mpr (Vv (ag (le_of_lt d) (ag b (by decide)))))) ?_);show((seqIndex? (k:Int) T.length).bind (T.toArray[·]?)).map _=_;rw [show seqIndex? (k:Int) T.length=some k by unfold seqIndex?;rw [if_neg (by exact iz:¬(k:Int)<0)];simp;assumption];show(T.toArray[k]?).map _=_;refine eL bD (eL h ?_);rfl
theorem Yy(h:i<n):ew .ge [int i,int n]=some (.bool false):=by
 show some (bQ.bool (decide ((i:Int)>=n)))=_;exact eL (bx (ig h)) rfl
theorem Nn(h:n<=i):ew .ge [int i,int n]=some (.bool true):=by
 show some (bQ.bool (decide ((i:Int)>=n)))=_;exact eL (bo (ofNat_le.mpr h)) rfl
theorem WD(h:i<n):ew .lt [int i,int n]=some (.bool true):=by
 show some (bQ.bool (decide ((i:Int)<n)))=_;exact eL (bo (ofNat_lt.mpr h)) rfl
theorem yg(h:i≠n):ew .eq [int i,int n]=some (.bool false):=by
 show(some (decide ((i:Int)=n))).map bQ.bool=_;refine eL (bx (fun z=>h (ofNat.inj z))) ?_;rfl
theorem Du:ew .eq [tx a,tx a]=some (.bool true):=by show(some ((⟨a.toArray⟩:Str)==⟨a.toArray⟩)).map bQ.bool=_;refine eL (bk ..) ?_;rfl
theorem qv{i:Int}:ew .eq [.int i,.int i]=some (.bool true):=by show(some (decide (i=i))).map bQ.bool=_;refine eL (bo rfl) ?_;rfl
theorem jN(h:c≠d):ew .eq [ch c,ch d]=some (.bool false):=by
 show(some ((⟨#[c]⟩:Str)==⟨#[d]⟩)).map bQ.bool=_;refine eL (aN.mpr fun z=>h (by injection z with z;simpa using z)) ?_;rfl
theorem mu{x y:bQ}(f:iN x=some l)(g:iN y=some u)(hT:T.length<=big):ew .slice [tx T,x,y]=some (tx ((T.take ((u.map (·.1)).elim T.length (clipAt T.length))).drop ((l.map (·.1)).elim 0 (clipAt T.length)))):=by
 have cl:∀i,clipAt T.length i<=T.length:=fun i=>by have:=clipAt_cast T.length i;omega
 obtain⟨lo,hlo⟩:∃lo,lo=(l.map (·.1)).elim 0 (clipAt T.length):=⟨_,rfl⟩;obtain⟨hi,b⟩:∃hi,hi=(u.map (·.1)).elim T.length (clipAt T.length):=⟨_,rfl⟩;have h:lo<=T.length:=by refine eL hlo ?_;cases l.map (·.1) with
  |none=>exact zero_le _
  |some i=>exact cl i
 have c:hi<=T.length:=by refine eL b ?_;cases u.map (·.1) with
  |none=>exact ah _
  |some i=>exact cl i
 have key:((slicePicked ⟨T.toArray⟩ l u none).filterMap ((⟨T.toArray⟩:Str).cps[·]?))=(T.take hi).drop lo/\(slicePicked ⟨T.toArray⟩ l u none).length=hi-lo:=by
  show(strSliceIndices (l.map (·.1)) (u.map (·.1)) 1 T.length).filterMap (T.toArray[·]?)=_/\(strSliceIndices (l.map (·.1)) (u.map (·.1)) 1 T.length).length=_;rw [show strSliceIndices (l.map (·.1)) (u.map (·.1)) 1 T.length=sliceRange (sliceBounds (l.map (·.1)) (u.map (·.1)) none T.length).1 (sliceBounds (l.map (·.1)) (u.map (·.1)) none T.length).2.1 1 from by rcases l.map (·.1) with⟨⟩<;>rcases u.map (·.1) with⟨⟩<;>rfl,sliceBounds_plain,<-hlo,<-b];show(sliceRange (lo:Int) (hi:Int) 1).filterMap _=_/\(sliceRange (lo:Int) (hi:Int) 1).length=_;refine eL (sliceRange_one ..) ⟨(eL (pick_run ..) ?_),eL (aj ..) (eL length_range rfl)⟩;show(T.drop _).take _=_;exact eL drop_take rfl
 show(iN x).bind (fun l=>(iN y).bind fun u=>fN (bif (slicePicked ⟨T.toArray⟩ l u none).length==(⟨T.toArray⟩:Str).length then⟨T.toArray⟩ else⟨((slicePicked ⟨T.toArray⟩ l u none).filterMap ((⟨T.toArray⟩:Str).cps[·]?)).toArray⟩))=_;refine eL f (eL g ?_);show fN (bif (slicePicked ⟨T.toArray⟩ l u none).length==(⟨T.toArray⟩:Str).length then⟨T.toArray⟩ else⟨((slicePicked ⟨T.toArray⟩ l u none).filterMap ((⟨T.toArray⟩:Str).cps[·]?)).toArray⟩)=_;refine eL key.1 (eL key.2 (eL Ge (eR hlo (eR b ?_))));have d:((T.take hi).drop lo).length<=big:=by refine eL bw (eL bE ?_);exact ag (sub_le _ _) (ag (bO _ _) hT)
 cases q:(hi-lo==T.length) with
 |false=>exact iw d
 |true=>
  have q:=aC.mp q;have e:(T.take hi).drop lo=T:=by
   rcases Nat.eq_zero_or_pos T.length with z|z
   .refine eL (bI.mp z) ?_;simp
   .refine eL (show lo=0 by exact Nat.le_antisymm (kF 0x10F836F2C304F127F10 tt q c (tW (cC 0x11F085F187F10 tt q z))) (gC 0x10F08 tt)) (eL (show hi=T.length by exact Nat.le_antisymm (cC 0x10F104F10 tt c) (dN 0x10F127F204F10 tt (sub_le _ _) q)) (eL take_length ?_));rfl
  exact eL e (iw hT)
theorem pj(hT:T.length<=big):ew .slice [tx T,int i,int j]=some (tx ((T.take j).drop i)):=by
 refine eL (mu rfl rfl hT) ?_;show some (tx ((T.take (clipAt T.length (j))).drop (clipAt T.length (i:Int))))=_;refine eL (clipAt_nat ..) (eL (clipAt_nat ..) ?_);congr 2;clear hT;rcases le_total j T.length with h|h
 .refine eL (min_eq_left h) ?_;rcases le_total i T.length with g|g
  .exact eL (min_eq_left g) rfl
  .exact eL (Nat.min_eq_right g) (eL (drop_eq_nil_of_le (eL bE (cC 0x10F104F10 tt (bO _ _)))) (eL (drop_eq_nil_of_le (eL bE (dN 0x10F124F024F10 tt g (bO _ _)))) rfl))
 .refine eL (Nat.min_eq_right h) (eL take_length (eL (take_of_length_le h) ?_));rcases le_total i T.length with g|g
  .exact eL (min_eq_left g) rfl
  .exact eL (Nat.min_eq_right g) (eL drop_length (eL (drop_eq_nil_of_le g) rfl))
theorem Rp(hT:T.length<=big)(h:i<=T.length):ew .slice [tx T,int i,.none]=some (tx (T.drop i)):=by
 refine eL (mu rfl rfl hT) ?_;show some (tx ((T.take T.length).drop (clipAt T.length (i:Int))))=_;exact eL (clipAt_nat ..) (eL (min_eq_left h) (eL take_length rfl))
theorem JD(hT:T.length<=big):ew .slice [tx T,.none,int j]=some (tx (T.take j)):=by
 refine eL (mu rfl rfl hT) ?_;show some (tx ((T.take (clipAt T.length (j))).drop 0))=_;refine eL (clipAt_nat ..) (eL drop_zero ?_);congr 2;rcases le_total j T.length with h|h
 .exact eL (min_eq_left h) rfl
 .exact eL (Nat.min_eq_right h) (eL take_length (eL (take_of_length_le h) rfl))
theorem Qb(hT:(T++[j]).length<=big):ew .slice [tx (T++[j]),.none,.int (-1)]=some (tx T):=by
 refine eL (mu rfl rfl hT) ?_;show some (tx (((T++[j]).take (clipAt (T++[j]).length (-((1:Nat))))).drop 0))=_;refine eL (clipAt_neg _ 1 (ah _)) (eL drop_zero (eL aa ?_));show some (tx ((T++[j]).take (T.length+1-1)))=_;exact eL (Nat.add_sub_cancel ..) (eL take_left rfl)
theorem Em(d:b≠[])(h:T.length+(T.length+1)*c.length<=big)(hr:(dP b c T).length<=big):ew .qp [tx T,tx b,tx c]=some (tx (dP b c T)):=by
 have hb:=length_pos_iff.mpr d;show(bif decide (1<=(⟨b.toArray⟩:Str).length)&&!tooLong (T.length+(occurrences ⟨T.toArray⟩ ⟨b.toArray⟩ 0 T.length (T.length+1)).length*c.length) then fN (so ⟨T.toArray⟩ ⟨b.toArray⟩ ⟨c.toArray⟩) else none)=_;exact eL (bo hb) (eL (show tooLong (T.length+(occurrences ⟨T.toArray⟩ ⟨b.toArray⟩ 0 T.length (T.length+1)).length*c.length)=false from bx (eL sizeLine_eq (fun e=>dN 0x15FC020B0B0B0B0B0B94F0B4B2B4BFB8C124F10 tt (Nat.mul_le_mul_right c.length (StrLaws.occ_length_le _ _ _ _ _)) (h:T.length+(T.length+1)*c.length<=1000000) e))) (eL (zI (ya ⟨T.toArray⟩ ⟨b.toArray⟩ ⟨c.toArray⟩ hb):so ⟨T.toArray⟩ ⟨b.toArray⟩ ⟨c.toArray⟩=⟨(dP b c T).toArray⟩) (iw hr)))
end
noncomputable abbrev sl(l:List Nat):Str:=⟨l.toArray⟩
theorem ML:∀ts:List (List Nat),strsOf (ts.map tx)=some (ts.map sl):=by
 intro ts;induction ts with
 |nil=>
  exact rfl
 |cons t r a=>
  show(strsOf (r.map tx)).map (sl t::·)=_;refine eL a ?_;rfl
theorem DK:∀ts:List (List Nat),Str.join ⟨#[]⟩ (ts.map sl)=sl ts.flatten:=by
 intro ts;induction ts with
 |nil=>rfl
 |cons y r a=>
  rcases r with _|⟨z,r⟩
  .refine eL List.flatten_cons (eL List.flatten_nil (eL (aF ..) ?_));rfl
  show sl y++⟨#[]⟩++Str.join ⟨#[]⟩ ((z::r).map sl)=_;rw [a,show(⟨#[]⟩)=sl [] from rfl,xQ,xQ,aF];rfl
theorem yO(ts:List (List Nat)):Txt.join ⟨#[]⟩ (ts.map sl)=sl ts.flatten:=by
 show glued ⟨#[]⟩ (ts.map sl)=_;exact eL (StrLaws.glued_eq_join ..) (eL (DK ..) rfl)
theorem zW(ts:List (List Nat)):((ts.map sl).map (·.length)).sum=ts.flatten.length:=by
 refine eL List.length_flatten (eL bh ?_);rfl
theorem xu{ts:List (List Nat)}(h:ts.flatten.length<=big):ew .join (.str ⟨#[]⟩::ts.map tx)=some (tx ts.flatten):=by
 have h:=h;have j:JoinOk ⟨#[]⟩ (ts.map sl)=true:=by
  unfold JoinOk;refine eL (StrLaws.joinTotal ..) (eL (zW ..) (eL (show(⟨#[]⟩:Str).length=0 from rfl) (eL (Nat.mul_zero ..) (eL (Nat.add_zero ..) ?_))));unfold tooLong;refine eL (bx (by exact eL sizeLine_eq (fun a=>gC 0x15F00B0B0B0B0B0B94F0B4B2B4BFB80 tt h a))) ?_;rfl
 show(strsOf (ts.map tx)).bind (fun l=>bif JoinOk ⟨#[]⟩ l then fN (Txt.join ⟨#[]⟩ l) else none)=_;refine eL (ML ..) ?_;show(bif JoinOk ⟨#[]⟩ (ts.map sl) then fN (Txt.join ⟨#[]⟩ (ts.map sl)) else none)=_;exact eL j (eL (yO ..) (iw h))
section
theorem He(h:T.getLast?=some c)(hT:T.length<=big):ew .idx [tx T,.int (-1)]=some (ch c):=by
 have hb:=hT;show(bif !(decide ((-1) < -(2^63))||decide ((-1)>=2^63)) then((seqIndex? (-1) T.length).bind (T.toArray[·]?)).map fun c=>bQ.str ⟨#[c]⟩ else none)=_;rw [bx (by decide),bx (by decide)];show((seqIndex? (-1) T.length).bind (T.toArray[·]?)).map _=_;have a:T.length≠0:=fun z=>by rw [bI.mp z] at h;exact cX h
 refine eL (show seqIndex? (-1) T.length=some (T.length-1) by unfold seqIndex?;simp;exact lst (pos_of_ne_zero a)) ?_;show(T.toArray[T.length-1]?).map _=_;refine eL bD (eR List.getLast?_eq_getElem? (eL h ?_));rfl
end
section
theorem vC(n i:Nat):min (fromIndex n (i:Int)) n=min i n:=by
 unfold fromIndex;refine eL (if_neg (by exact iz:¬(i:Int)<0)) ?_;rfl
end
section
variable{K:Frag}
theorem HJ(e:fnAt K f=some p):p.2=bodyOf K f/\p.1.scope=mH K f:=by
 unfold bodyOf mH;exact eL e (⟨rfl,rfl⟩)
theorem cG.deep(h:cG C b ⟨sc,loc,obj,d⟩ fl dm)(hd:d<=a):cG C b ⟨sc,loc,obj,a⟩ fl dm:=fun F Ω H=>h F Ω ⟨⟨H.rel.n,H.rel.fr,H.rel.ob,H.rel.inj,H.rel.eu,H.rel.old,H.rel.uK,H.rel.lo,H.rel.hi,H.rel.toks⟩,⟨by have z:=H.room.depth;show _+2*d<=_;exact dN 0x10FEBDB3B8CD2A08F124FEBDB3B8CD1A0 tt z hd,by have z:=H.room.units;show _+30*d<=_;exact ag (add_le_add_left (mul_le_mul_left 30 hd) _) z,H.room.handled⟩,H.env⟩
theorem bS{b:Bool}(h:(a&&b)=true):a=true/\b=true:=ab.mp h
end
set_option backward.match.sparseCases true in
theorem nG(env)(r):∀l,execs (l++r) env=(execs l env).bind fun f=>match f with |.next=>execs r env|f=>.pure f:=by
 intro l;induction l with
 |nil=>
  exact rfl
 |cons s l a=>
  show(exec s env).bind (fun f=>match f with |.next=>execs (l++r) env|f=>.pure f)=((exec s env).bind (fun f=>match f with |.next=>execs l env|f=>.pure f)).bind _;refine eL (Sem.bind_assoc ..) ?_;congr 1
  funext f
  induction f with
  |next=>exact a
  |_=>rfl
end
end
end Mine
section
set_option Elab.async true
set_option maxRecDepth 100000
set_option maxHeartbeats 8000000
section
open PySem PySem.W PyProof.Rows
local macro_rules | `(tactic| o_head $t:term)=>`(tactic| apply_assumption)
theorem Mine.k0(h:∀p:Prop,p):PySem.Challenge.rw_te0040_02.row.Holds:=by
 k_head
end
end
set_option Elab.async false
namespace Mine
noncomputable section
open PySem PySem.W PySem.Calls PyProof.Rows
open Nat (zero_le ne_of_lt sub_self mod_lt succ_le_succ sub_le min_eq_left succ_pos add_le_add mul_le_mul_left le_of_lt blt_eq add_le_add_left le_of_not_lt pos_of_ne_zero le_add_left not_lt_zero min_le_left le_zero mul_succ lt_irrefl le_of_lt_succ succ_ne_zero succ_ne_self succ_lt_succ le_total le_succ_of_le lt_or_eq_of_le)
open List (length all_cons size_toArray findIdx?_cons getElem?_nil drop_zero all_append mem_flatMap contains_iff_mem map_cons take_length range' cons_append length_range getElem?_set_self ext_getElem? drop_eq_nil_of_le take_left nil_append map_nil all_map getElem?_drop any_cons reverse_concat getElem?_range drop_left mem_append_left length_nil foldl_cons map_id take_of_length_le length_reverse dropLast_concat eq_nil_or_concat drop_length concat_eq_append take filterMap drop_take find?_cons mem_toArray mem_append_right toArray reverse_cons flatMap_cons mem_zipIdx_iff_getElem? head_eq_of_cons_eq length_pos_iff getElem?_take_of_lt)
open Array (length_toList getElem?_toList)
open Int (ofNat_le natCast_nonneg ofNat_lt ofNat)
open Bool (eq_false_iff noConfusion)
open Option (bind_some isNone_iff_eq_none map_eq_none_iff)
noncomputable abbrev KF(P:Params):Frag:=k0.heap_1_1 P
abbrev R3(P:Params)(Φ:List Fact)(Es:List Ent):Rc:=fk (KF P) Φ Es 400
abbrev dh(P:Params)(f:Addr)(loc:List (Str×AV))(obj:List AO)(d:Nat):St:=⟨mH (KF P) f,loc,obj,d⟩
structure Sx where
 raw:bQ
 place:bQ
 chunk:bQ
 size:bQ
 off:bQ
 pl:bQ
 pc:bQ
 buf:bQ
noncomputable def cz(b:Nat)(g:Sx):List AO:=[.inst 159 [("reportCharacterErrors",.cv 141 (.obj b)),("newLines",.obj (b+1)),("dataStream",.obj (b+2)),("chunk",.lf g.chunk),("chunkSize",.lf g.size),("chunkOffset",.lf g.off),("errors",.obj (b+3)),("prevNumLines",.lf g.pl),("prevNumCols",.lf g.pc),("_bufferedCharacter",.lf g.buf)],
 .list [.lf (.int 0)],.inst 66 [("text",.lf g.raw),("place",.lf g.place)],.list []]
noncomputable def cq(i:Nat):Sx:=⟨.sym 0,.sym (8*i+1),.sym (8*i+2),.sym (8*i+3),.sym (8*i+4),.sym (8*i+5),.sym (8*i+6),.sym (8*i+7)⟩
noncomputable def nT(l:List (Str×AV)):List (Str×AV):=l++([("self",.obj 0)]:List (Str×AV))
noncomputable def four(b:Nat):List Nat:=[b,b+1,b+2,b+3]
def MV(b:Nat)(x:bQ)(S:Sx)(d:Nat):Ent:=⟨141,nT [("data",.lf x)],four b,cz 0 S,d,.next,cz 0 S,none⟩
def wk(b:Nat)(S:Sx)(off l c:bQ)(d:Nat):Ent:=⟨112,nT [("offset",.lf off)],four b,cz 0 S,d,.ret (.tup [.lf l,.lf c]),cz 0 S,none⟩
def RR(b:Nat)(S a:Sx)(r:Bool)(d:Nat):Ent:=⟨134,nT [("chunkSize",.lf .none)],four b,cz 0 S,d,.ret (.lf (.bool r)),cz 0 a,none⟩
def n5(b:Nat)(S a:Sx)(r:bQ)(d:Nat):Ent:=⟨126,nT [],four b,cz 0 S,d,.ret (.lf r),cz 0 a,none⟩
def zG(b:Nat)(S a:Sx)(c:bQ)(d:Nat):Ent:=⟨156,nT [("char",.lf c)],four b,cz 0 S,d,.next,cz 0 a,none⟩
def SX(b:Nat)(S a:Sx)(cs:AV)(xy:Bool)(w:bQ)(d:Nat):Ent:=⟨149,[("opposite",.lf (.bool xy)),("characters",cs),("self",.obj 0)],four b,cz 0 S,d,.ret (.lf w),cz 0 a,none⟩
noncomputable def Ir(x:List Fact):List Fact:=[⟨.add,[.sym 1,.int 10240],.sym 12⟩,⟨.slice,[.sym 0,.sym 1,.sym 12],.sym 13⟩,⟨.len,[.sym 13],.sym 14⟩,⟨.add,[.sym 1,.sym 14],.sym 15⟩]++x
noncomputable def WM(x:bQ):List Fact:=[⟨.qp,[x,.str "\r\n",.str "\n"],.sym 19⟩,⟨.qp,[.sym 19,.str "\r",.str "\n"],.sym 20⟩,⟨.len,[.sym 20],.sym 21⟩]
noncomputable def wO(b:bQ):Sx:=⟨.sym 0,.sym 1,.sym 2,.sym 3,.sym 4,.sym 5,.sym 6,b⟩
noncomputable def EO(b ck a:bQ):Sx:=⟨.sym 0,.sym 15,ck,a,.int 0,.sym 10,.sym 11,b⟩
def UD(P:Params)(d e1:Nat)(Φ:List Fact)(Es:List Ent)(b:bQ)(r:Bool)(a:Sx):Bool:=kS (R3 P Φ (wk 0 (wO b) (.sym 3) (.sym 10) (.sym 11) e1::Es)) (bodyOf (KF P) 134) (dh P 134 (nT [("chunkSize",.lf .none)]) (cz 0 (wO b)) d) (.ret (.lf (.bool r))) (cz 0 a)
noncomputable def AL:List Nat:=[9,10,12,13,32,33,34,35,38,39,45,47,48,49,50,51,52,53,54,55,56,57,59,60,61,62,63,67,83,84,65,66,69,73,76,77,78,80,82,88,89,93,96,97,98,99,100,101,102,105,107,108,109,110,111,112,113,114,115,116,117,120,121,201,233]
noncomputable def XS(x:List Fact)(b:Bool):List Fact:=⟨.truth,[.sym 13],.bool true⟩::⟨.lt,[.int 1,.sym 14],.bool b⟩::x
noncomputable def j7:List Fact:=[⟨.idx,[.sym 13,.int (-1)],.sym 16⟩,⟨.ord,[.sym 16],.sym 17⟩,⟨.eq,[.sym 17,.int 13],.bool false⟩,⟨.le,[.int 55296,.sym 17],.bool false⟩]
def A9:List Fact:=[⟨.idx,[.sym 13,.int (-1)],ch 13⟩,⟨.slice,[.sym 13,.none,.int (-1)],.sym 18⟩]
def cleared(b:bQ):Sx:=EO b (.str ⟨#[]⟩) (.int 0)
def l5(P:Params)(d e1:Nat):Bool:=UD P d e1 (Ir [⟨.truth,[.sym 13],.bool false⟩]) [] .none false (cleared .none) &&
 (UD P d e1 (Ir (XS (WM (.sym 13)) false)) [MV 0 (.sym 13) (cleared .none) e1] .none true (EO .none (.sym 20) (.sym 21)) &&
 (UD P d e1 (Ir (XS (j7++WM (.sym 13)) true)) [MV 0 (.sym 13) (cleared .none) e1] .none true (EO .none (.sym 20) (.sym 21)) &&
 (UD P d e1 (Ir (XS (A9++WM (.sym 18)) true)) [MV 0 (.sym 18) (cleared (ch 13)) e1] .none true (EO (ch 13) (.sym 20) (.sym 21)) &&
 UD P d e1 (Ir [⟨.add,[ch 13,.sym 13],ch 13⟩]) [MV 0 (ch 13) (cleared .none) e1] (ch 13) true (EO .none (ch 10) (.int 1)))))
def C7(b:Bool):List Fact:=bif b then[⟨.rfind,[.sym 2,ch 10,.int 0,.sym 8],.sym 12⟩,⟨.eq,[.sym 12,.int (-1)],.bool false⟩,⟨.add,[.sym 12,.int 1],.sym 13⟩,⟨.sub,[.sym 8,.sym 13],.sym 11⟩]
 else[⟨.rfind,[.sym 2,ch 10,.int 0,.sym 8],.int (-1)⟩,⟨.add,[.sym 6,.sym 8],.sym 11⟩]
def Vo(b:Bool):List Fact:=⟨.len,[.sym 2],.sym 3⟩::⟨.count,[.sym 2,ch 10,.int 0,.sym 8],.sym 9⟩::⟨.add,[.sym 5,.sym 9],.sym 10⟩::C7 b
def posB(P:Params)(d:Nat)(b:Bool):Bool:=kS (R3 P (Vo b) []) (bodyOf (KF P) 112) (dh P 112 (nT [("offset",.lf (.sym 8))]) (cz 0 (cq 0)) d) (.ret (.tup [.lf (.sym 10),.lf (.sym 11)])) (cz 0 (cq 0))
def Vh(P:Params)(d e1:Nat):Bool:=kS (R3 P [⟨.add,[.sym 10,.int 1],.sym 12⟩] [wk 0 (cq 0) (.sym 4) (.sym 10) (.sym 11) e1]) (bodyOf (KF P) 119) (dh P 119 (nT []) (cz 0 (cq 0)) d) (.ret (.tup [.lf (.sym 12),.lf (.sym 11)])) (cz 0 (cq 0))
noncomputable def Sx.at(S:Sx)(o:bQ):Sx:=⟨S.raw,S.place,S.chunk,S.size,o,S.pl,S.pc,S.buf⟩
def Ze(P:Params)(d:Nat)(Φ:List Fact)(Es:List Ent)(r:bQ)(a:Sx):Bool:=kS (R3 P Φ Es) (bodyOf (KF P) 126) (dh P 126 (nT []) (cz 0 (cq 0)) d) (.ret (.lf r)) (cz 0 a)
def j9(P:Params)(d e1:Nat):Bool:=Ze P d [⟨.ge,[.sym 4,.sym 3],.bool false⟩,⟨.idx,[.sym 2,.sym 4],.sym 9⟩,⟨.add,[.sym 4,.int 1],.sym 10⟩] [] (.sym 9) ((cq 0).at (.sym 10)) &&
 (Ze P d [⟨.ge,[.sym 4,.sym 3],.bool true⟩] [RR 0 (cq 0) (cq 1) false e1] .none (cq 1) &&
 Ze P d [⟨.ge,[.sym 4,.sym 3],.bool true⟩,⟨.idx,[.sym 10,.sym 12],.sym 17⟩,⟨.add,[.sym 12,.int 1],.sym 18⟩] [RR 0 (cq 0) (cq 1) true e1] (.sym 17) ((cq 1).at (.sym 18)))
def l8(P:Params)(d:Nat):Bool:=kS (R3 P [⟨.FV,[.sym 9],.bool false⟩,⟨.eq,[.sym 4,.int 0],.bool false⟩,⟨.sub,[.sym 4,.int 1],.sym 10⟩,⟨.idx,[.sym 2,.sym 10],.sym 9⟩,⟨.eq,[.sym 9,.sym 9],.bool true⟩] []) (bodyOf (KF P) 156) (dh P 156 (nT [("char",.lf (.sym 9))]) (cz 0 (cq 0)) d) .next (cz 0 ((cq 0).at (.sym 10))) &&
 kS (R3 P [] []) (bodyOf (KF P) 156) (dh P 156 (nT [("char",.lf .none)]) (cz 0 (cq 0)) d) .next (cz 0 (cq 0))
def Ie(P:Params):SG:=MY (eA (bodyOf (KF P) 141) 0)
noncomputable def b6(c:List (Str×AV)):List (Str×AV):=("data",.lf (.sym 8))::("self",.obj 0)::c
def same(P:Params)(Φ:List Fact)(b:List Stmt)(σ:St):Bool:=qK (R3 P Φ []) b σ .next σ.loc σ.obj
def ZY(P:Params)(d:Nat):Bool:=(Eo (R3 P [] []) (Ie P).e (dh P 141 (b6 []) (cz 0 (cq 0)) d) (.lf (.sym 8))&&((Ie P).y=="c")&&fE (Ie P).e)&&AL.all fun c=>same P [] (Ie P).b (dh P 141 (b6 [("c",.lf (ch c))]) (cz 0 (cq 0)) d)
structure rS where
 l:List Nat
 cs:AV
 xy:Bool
def nr(l:List Nat):AV:=.tup (l.map fun c=>.lf (ch c))
noncomputable def uC:List Nat:=[38,60,0]
noncomputable def vE:List Nat:=[60,0]
noncomputable def jY:List Nat:=[9,10,12,32,13]
def oD:List rS:=[⟨uC,nr uC,false⟩,⟨jY,.top (.ref 15),true⟩,⟨vE,nr vE,false⟩,⟨[0],.lf (ch 0),false⟩]
def Ik(c:bQ)(l:List Nat):List Fact:=⟨.FV,[c],.bool false⟩::⟨.eq,[c,.none],.bool false⟩::l.flatMap fun x=>[⟨.eq,[c,ch x],.bool false⟩,⟨.eq,[ch x,c],.bool false⟩,⟨.Na,[c,ch x],.bool false⟩]
noncomputable def yq(k:rS):List (Str×AV):=[("opposite",.lf (.bool k.xy)),("characters",k.cs),("self",.obj 0)]
def BH(k:rS):List (Str×AV):=yq k++([("rv",.obj 4)]:List (Str×AV))
def uH(k:rS)(e:bQ):List (Str×AV):=BH k++([("end",.lf e)]:List (Str×AV))
noncomputable def oZ(r:Nat):List AV:=(List.range r).map fun i=>.lf (.sym (40+i))
def lS(S:Sx)(r:List AV):List AO:=cz 0 S++[.list r]
def rP(P:Params):Xb:=SO (eA (bodyOf (KF P) 149) 1)
def Ij(P:Params):Xb:=SO (eA (rP P).b 1)
def Dd(P:Params)(d:Nat)(k:rS)(e:bQ)(r:Nat):St:=dh P 149 (uH k e) (lS (cq 0) (oZ r)) d
def Zj(P:Params)(d:Nat)(k:rS)(r:Nat)(Φ:List Fact)(b:Bool):Bool:=Mj (R3 P Φ []) (Ij P).t (Dd P d k (.sym 8) r) b
def WJ(P:Params)(d e1:Nat)(k:rS)(r:Nat)(e:bQ)(Φ:List Fact)(Es:List Ent)(fl:Fl)(a:Sx)(y:List AV):Bool:=qK (R3 P Φ Es) ((rP P).b.drop 2) (Dd P d k e r) fl (uH k e) (lS a (oZ r++y))
noncomputable def Xt(c:bQ):List Fact:=[⟨.eq,[.sym 8,.sym 3],.bool false⟩,⟨.idx,[.sym 2,.sym 8],c⟩]
noncomputable def LI(x y:bQ)(b:Bool):Fact:=⟨.eq,[x,y],.bool b⟩
noncomputable def ZH:Fact:=⟨.slice,[.sym 2,.sym 4,.none],.sym 9⟩
def b7(P:Params)(d e1:Nat)(k:rS)(r:Nat):Bool:=(Mj (R3 P [] []) (rP P).t (dh P 149 (BH k) (lS (cq 0) (oZ r)) d) true&&(Mj (R3 P [] []) (rP P).t (Dd P d k (.sym 8) r) true&&(CP (R3 P [] []) (eA (rP P).b 0) (dh P 149 (BH k) (lS (cq 0) (oZ r)) d) (uH k (.sym 4)) (lS (cq 0) (oZ r))&&CP (R3 P [] []) (eA (rP P).b 0) (Dd P d k (.sym 8) r) (uH k (.sym 4)) (lS (cq 0) (oZ r))))) &&
 ((k.l.all (fun c=>Zj P d k r (Xt (ch c)) k.xy)&&(Zj P d k r (Xt (.sym 9)++Ik (.sym 9) k.l) (!k.xy)&&(Zj P d k r [LI (.sym 8) (.sym 3) true] false&&qK (R3 P [⟨.add,[.sym 8,.int 1],.sym 10⟩] []) (Ij P).b (Dd P d k (.sym 8) r) .next (uH k (.sym 10)) (lS (cq 0) (oZ r))))) &&
 (WJ P d e1 k r (.sym 4) [LI (.sym 4) (.sym 4) true,LI (.sym 4) (.sym 3) false] [] .brk (cq 0) []&&(WJ P d e1 k r (.sym 8) [LI (.sym 8) (.sym 4) false,LI (.sym 8) (.sym 3) false,⟨.slice,[.sym 2,.sym 4,.sym 8],.sym 9⟩] [] .brk ((cq 0).at (.sym 8)) [.lf (.sym 9)] &&
 ([true,false].all fun b=>WJ P d e1 k r (.sym 4) [LI (.sym 4) (.sym 4) true,LI (.sym 4) (.sym 3) true,ZH] [RR 0 (cq 0) (cq 2) b e1] (bif b then .next else .brk) (cq 2) [.lf (.sym 9)]&&WJ P d e1 k r (.sym 8) [LI (.sym 8) (.sym 4) false,LI (.sym 8) (.sym 3) true,ZH] [RR 0 (cq 0) (cq 2) b e1] (bif b then .next else .brk) (cq 2) [.lf (.sym 9)]))))
def C8(P:Params)(d:Nat)(k:rS)(r:Nat):Bool:=kS (R3 P [⟨.join,.str ⟨#[]⟩::(List.range r).map fun i=>.sym (40+i),.sym 9⟩] []) ((bodyOf (KF P) 149).drop 2) (Dd P d k (.sym 8) r) (.ret (.lf (bif r==0 then .str ⟨#[]⟩ else .sym 9))) (cz 0 (cq 0))
def p5(P:Params)(d e1:Nat):Bool:=oD.all fun k=>CP (R3 P [] []) (eA (bodyOf (KF P) 149) 0) (dh P 149 (yq k) (cz 0 (cq 0)) d) (BH k) (lS (cq 0) [])&&((List.range 3).all fun r=>b7 P d e1 k r)&&(List.range 4).all fun r=>C8 P d k r
def stK(P:Params):Bool:=l5 P 21 20&&((posB P 20 true&&posB P 20 false)&&(Vh P 21 20&&(j9 P 22 21&&(l8 P 22&&(ZY P 20&&p5 P 22 21)))))
theorem Pe(P):stK P=true:=by kernel_rfl
section
open PySem.Builtin PySem.Builtin.Str
noncomputable def MB(a:Nat×Nat)(c:Nat):Nat×Nat:=bif c==10 then(a.1+1,0) else(a.1,a.2+1)
def lc(l:List Nat):Nat×Nat:=l.foldl MB (0,0)
theorem QR(a):∀l,cR a l>=-1:=by
 intro l;induction l with
 |nil=>
  exact Int.le_refl _
 |cons c r b=>
  have:=b;refine eL (iH ..) ?_;split
  .exact Int.le_trans this (Int.le_add_of_nonneg_right (by decide))
  .split<;>decide
theorem LN:∀T a,(T.foldl MB a).1=a.1+fZ 10 T/\((T.foldl MB a).2)=if cR 10 T = -1 then(a.2:Int)+T.length else T.length-(cR 10 T+1):=by
 intro T;induction T with
 |nil=>
  intro a;exact⟨rfl,(Int.add_zero _).symm⟩
 |cons c r d=>
  intro a;refine bY (d (MB a c)) fun b e=>?_
  have lo:=QR 10 r;refine eL foldl_cons (eL (iH ..) (eL b (eL e (eL ay ?_))));unfold MB fZ;refine eL List.countP_cons ?_;rcases f:c==10 with _|_
  .refine ⟨by show a.1+_=_;rfl,?_⟩;show(if cR 10 r = -1 then((a.2+1):Int)+r.length else _)=if(if cR 10 r>=0 then cR 10 r+1 else if false=true then(0:Int) else -1) = -1 then _ else _;by_cases q:cR 10 r = -1
   .rw [if_pos q,if_neg (show ¬cR 10 r>=0 by(rw [q];decide)),if_neg aA,if_pos rfl];exact(Int.add_assoc (a.2) 1 _).trans (az ((a.2:Int) + ·) (Int.add_comm 1 _))
   .refine eL (if_neg q) (eL (if_pos (show cR 10 r>=0 by exact(Int.lt_iff_le_and_ne.mpr ⟨lo,Ne.symm q⟩))) (eL (if_neg (show ¬cR 10 r+1 = -1 by exact fun z=>absurd (z▸Int.add_le_add_right lo 1) (by decide))) ?_));exact(Int.add_sub_add_right _ 1 _).symm
  .refine ⟨by show a.1+1+_=_;simp only [if_true];exact cC 0x12FCC910C1C90 tt,?_⟩;show(if cR 10 r = -1 then((0:Nat):Int)+r.length else _)=if(if cR 10 r>=0 then cR 10 r+1 else if true=true then(0:Int) else -1) = -1 then _ else _;by_cases q:cR 10 r = -1
   .refine eL (if_pos q) (eL (if_neg (show ¬cR 10 r>=0 by(rw [q];decide))) (eL (if_pos rfl) (eL (if_neg (by decide)) ?_)));exact(Int.zero_add _).trans (Int.add_sub_cancel _ 1).symm
   .refine eL (if_neg q) (eL (if_pos (show cR 10 r>=0 by exact(Int.lt_iff_le_and_ne.mpr ⟨lo,Ne.symm q⟩))) (eL (if_neg (show ¬cR 10 r+1 = -1 by exact fun z=>absurd (z▸Int.add_le_add_right lo 1) (by decide))) ?_));exact(Int.add_sub_add_right _ 1 _).symm
theorem RM(a b):lc (a++b)=b.foldl MB (lc a):=List.foldl_append
noncomputable def cT(L:List bQ)(k:Nat):bQ:=(L[k]?).getD .none
theorem lL(h:L.all isLit=true)(k):isLit (cT L k)=true:=by
 unfold cT;rcases e:L[k]? with _|l
 .rfl
 .exact ak.mp h l (aR e)
abbrev cx(P:Params)(B:Heap×Program×World):Ctx:=⟨KF P,B.1,B.2.1,B.2.2,fun _=>.none,[]⟩
theorem bU:dT C []:=fun _ h=>iS h
theorem cg(h:fR C e)(t:dT C Es):dT C (e::Es):=fun g hg=>(aU.mp hg).elim (fun z=>z▸h) (t g)
abbrev sx(raw:List Nat)(n:Nat)(ck:List Nat)(k:Nat)(dn:List Nat)(a:bQ):Sx:=⟨tx raw,int n,tx ck,int ck.length,int k,int (lc dn).1,int (lc dn).2,a⟩
abbrev sL(raw:List Nat)(n:Nat)(ck:List Nat)(k:Nat)(dn:List Nat)(a:bQ):List bQ:=[tx raw,int n,tx ck,int ck.length,int k,int (lc dn).1,int (lc dn).2,a]
section
theorem eO(i:∀k,isLit (θ k)=true)(c:e.args=none)(b:e.MD=true)(e1:St.sub θ ⟨mH (KF P) e.f,e.loc,e.obj,e.dep⟩=σ)(e2:e.fl.sub θ=fl)(g:e.dm.map (AO.sub θ)=o)(h:cG (cx P B) (bodyOf (KF P) e.f) σ fl o):fR ((cx P B).sy θ Φ) e:=
 .of i c b fun p hp=>by
  exact bY (HJ hp) fun a d=>(eL a (eL d (eL e1 (eL e2 (eL g h)))))
theorem gK(b:L.all isLit=true)(c:Facts (cT L) Φ)(a:dT (C.sy (cT L) Φ) Es):Sy C (cT L) Φ Es:=⟨lL b,c,a⟩
theorem iR(P):l5 P 21 20=true/\(posB P 20 true=true/\posB P 20 false=true)/\Vh P 21 20=true/\j9 P 22 21=true/\l8 P 22=true/\ZY P 20=true/\p5 P 22 21=true:=
 have h:=bS (Pe P);have e:=bS h.2;have d:=bS e.2;have c:=bS d.2;have b:=bS c.2;have a:=bS b.2
 ⟨h.1,bS e.1,d.1,c.1,b.1,a.1,a.2⟩
theorem uV(h:k<=ck.length):ew .count [tx ck,ch 10,.int 0,int k]=some (int (fZ 10 (ck.take k))):=by
 show some (bQ.int ((occurrences ⟨ck.toArray⟩ ⟨#[10]⟩ (fromIndex ck.length 0) (min (fromIndex ck.length (k:Int)) ck.length) (ck.length+1)).length))=_;refine eL (vC ..) (eL (min_eq_left h) (eL (show fromIndex ck.length 0=0 from by unfold fromIndex;rfl) ?_));have:=CA ⟨ck.toArray⟩ 10 k h;exact eL (show ck.length+1=(⟨ck.toArray⟩:Str).length+1 from rfl) (eL this rfl)
theorem vY(h:k<=ck.length):ew .rfind [tx ck,ch 10,.int 0,int k]=some (.int (cR 10 (ck.take k))):=by
 show some (bQ.int (qC (lastOccurrence ⟨ck.toArray⟩ ⟨#[10]⟩ (fromIndex ck.length 0) (min (fromIndex ck.length (k:Int)) ck.length))))=_;exact eL (vC ..) (eL (min_eq_left h) (eL (show fromIndex ck.length 0=0 from by unfold fromIndex;rfl) (eL (DF ⟨ck.toArray⟩ 10 k h) rfl)))
variable(G:Good (cx P B))(hb:isLit bf=true)
include G hb
theorem Og(b:k<=ck.length)(hd:20<=d):cG (cx P B) (bodyOf (KF P) 112) (dh P 112 (nT [("offset",.lf (int k))]) (cz 0 (sx raw n ck j dn bf)) d) (.ret (.tup [.lf (int (lc (dn++ck.take k)).1),.lf (int (lc (dn++ck.take k)).2)])) (cz 0 (sx raw n ck j dn bf)):=by
 refine bY ((iR P).2.1) fun f e=>(bY (LN (ck.take k) (lc dn)) fun c a=>?_)
 rw [<-RM] at c a;rw [(by exact eL bE (eL (min_eq_left b) rfl):(ck.take k).length=k)] at a;have fl:(sL raw n ck j dn bf++[int k,int (fZ 10 (ck.take k)),int (lc (dn++ck.take k)).1,int (lc (dn++ck.take k)).2,.int (cR 10 (ck.take k)),.int (cR 10 (ck.take k)+1)]).all isLit=true:=by
  show(true&&(true&&(true&&(true&&(true&&(true&&(true&&(isLit bf&&true))))))))=true;refine eL hb ?_;rfl
 have c1:FT (cT (sL raw n ck j dn bf++[int k,int (fZ 10 (ck.take k)),int (lc (dn++ck.take k)).1,int (lc (dn++ck.take k)).2,.int (cR 10 (ck.take k)),.int (cR 10 (ck.take k)+1)])) ⟨.add,[.sym 5,.sym 9],.sym 10⟩:=by
  show some (bQ.int (((lc dn).1)+(fZ 10 (ck.take k))))=some (int _);refine eL c ?_;rfl
 by_cases q:cR 10 (ck.take k) = -1
 .rw [if_pos q] at a;refine cG.deep (dO G (gK fl (bP kY (bP (uV b) (bP c1 (bP ?_ (bP ?_ bR))))) bU) e) hd
  .show ew .rfind [tx ck,ch 10,.int 0,int k]=some (.int (-1));exact eL (vY b) (eL q rfl)
  .show some (bQ.int (((lc dn).2)+(k:Int)))=some (int _);unfold int;exact eL a rfl
 .rw [if_neg q] at a;refine cG.deep (dO G (gK fl (bP kY (bP (uV b) (bP c1 (bP (vY b) (bP ?_ (bP rfl (bP ?_ bR))))))) bU) f) hd
  .show (some (decide (cR 10 (ck.take k) = -1))).map bQ.bool=_;refine eL (bx q) ?_;rfl
  .show some (bQ.int ((k)-(cR 10 (ck.take k)+1)))=some (int _);unfold int;exact eL a rfl
end
end
section
open Classical in
noncomputable def hook(R:Rc)(x:Expr)(a:St)(r:AV×St):Rc:={ R with ev:=fun e σ=>if e=x/\σ=a then some r else R.ev e σ }
section
variable{C:Ctx}{x:Expr}{σ τ:St}{j:Nat}{ts:List (List Nat)}{ap pos:Pos}{o:Expr}
open Classical in
theorem mG{R:Rc}(b:cD C R)(h:iD C x σ a τ):cD C (hook R x σ (a,τ)):=⟨fun F Ω e c w s H=>by
  show OP (if e=x/\s=σ then some (a,τ) else R.ev e s) _;by_cases q:e=x/\s=σ
  .refine eL (if_pos q) (bY q ?_);clear q;intro f g;subst f;subst g;exact .intro fun p e=>by(injection e with d;subst d);exact h F c H
  .refine eL (if_neg q) ?_;exact b.ev F Ω e c w s H,b.gO,b.ex,b.fL,b.call,b.uF,b.NJ,b.asg⟩
theorem BR:∀ls,ia (ls.map .lf)=some ls:=by
 intro ls;induction ls with
 |nil=>
  exact rfl
 |cons l r a=>
  show(iB (.lf l)).bind (fun x=>(ia (r.map .lf)).map (x::·))=_;refine eL a ?_;rfl
theorem iD.join(G:Good C)(c:iD C x σ (.obj j) τ)(b:τ.obj[j]?=some (.list ((ts.map tx).map .lf)))(e:ts.flatten.length<=big)
  (ho:∀(R:Rc) (s:St),(R.step C.K C.Φ [] dG (lU C.Φ)).ev o s=some (.lf (.str ⟨#[]⟩),s)) (hg:(baseOk o&&((ap.endLine==pos.line)&&(decide (1<20)&&[x].all plainArg)))=true):iD C (.Call (.Attribute o "join" ap) [x] [] pos) σ (.lf (tx ts.flatten)) τ:=fun F Ω H=>by
 have a:dT C []:=fun _ h=>iS h
 suffices key:yw C.K C.Φ ((hook (Rc.iter C.K C.Φ [] dG (lU C.Φ) 2) x σ (.obj j,τ)).step C.K C.Φ [] dG (lU C.Φ)) (.Attribute o "join" ap) [x] [] pos σ=some (.lf (tx ts.flatten),τ) from(rZ G (mA G a eY (jf G) (mG (gU G a eY (jf G) 2) c)) Ω .refl σ H).of key
 show(gd (baseOk o&&((ap.endLine==pos.line)&&(decide (1<20)&&[x].all plainArg))) _) σ=_;refine eL hg ?_;show Option.bind (((hook (Rc.iter C.K C.Φ [] dG (lU C.Φ) 2) x σ (.obj j,τ)).step C.K C.Φ [] dG (lU C.Φ)).ev o σ) _=_;refine eL (ho ..) ?_;show(gd ([x].all plainArg) _) σ=_;refine eL ((ab.mp (ab.mp (ab.mp hg).2).2).2) ?_;have e2:(hook (Rc.iter C.K C.Φ [] dG (lU C.Φ) 2) x σ (.obj j,τ)).ev x σ=some (.obj j,τ):=if_pos ⟨rfl,rfl⟩;show Option.bind (Option.bind ((hook (Rc.iter C.K C.Φ [] dG (lU C.Φ) 2) x σ (.obj j,τ)).ev x σ) _) _=_;refine eL e2 ?_;have d:yT C.Φ (.lf (.str ⟨#[]⟩)) (.obj j) τ=some (.lf (tx ts.flatten)):=by
  show((listAt τ j).bind fun xs=>(ia xs).bind fun ys=>(kH C.Φ .join (.str ⟨#[]⟩::ys)).map AV.lf)=_;unfold listAt;refine eL b ?_;show((ia ((ts.map tx).map .lf)).bind fun ys=>(kH C.Φ .join (.str ⟨#[]⟩::ys)).map AV.lf)=_;refine eL (BR ..) ?_;show(kH C.Φ .join (.str ⟨#[]⟩::ts.map tx)).map AV.lf=_;unfold kH;rw [if_pos (by
   show(true&&(ts.map tx).all isLit)=true;refine eL (Bool.true_and ..) (eL all_map ?_);exact ak.mpr fun _ _=>rfl),xu e];rfl
 show(yT C.Φ (.lf (.str ⟨#[]⟩)) (.obj j) τ).map (·,τ)=_;refine eL d ?_;rfl
end
end
section
variable{C:Ctx}{x:Expr}{σ τ:St}{a:AV}{p:Pos}
theorem dz.ret(G:Good C)(c:iD C x σ a τ):dz C [.Return (some x) p] σ (.ret a) τ:=fun F Ω H=>by
 have b:dT C []:=fun _ h=>iS h
 refine((mA G b eY (jf G) (mA G b eY (jf G) (mG (gU G b eY (jf G) 2) c))).fL F Ω [.Return (some x) p] Ω .refl σ H).of (?_:_=some (.ret a,τ));have e2:(hook (Rc.iter C.K C.Φ [] dG (lU C.Φ) 2) x σ (a,τ)).ev x σ=some (a,τ):=if_pos ⟨rfl,rfl⟩;show Option.bind (Option.bind ((hook (Rc.iter C.K C.Φ [] dG (lU C.Φ) 2) x σ (a,τ)).ev x σ) _) _=_;refine eL e2 ?_;rfl
end
noncomputable def YS(s:Stmt):Expr:=match s with
 |.Return (some e) _=>e
 |_=>default
structure WS where
 f:Expr
 a:List Expr
 p:Pos
noncomputable def YR(e:Expr):WS:=match e with
 |.Call f a _ p=>⟨f,a,p⟩
 |_=>⟨default,[],default⟩
noncomputable def Pc(e:Expr):Expr×Pos:=match e with
 |.Attribute o _ p=>(o,p)
 |_=>(default,default)
structure ZI where
 elt:Expr
 it:Expr
 py:Pos
 sc:Scope
 p:Pos
noncomputable def OZ(e:Expr):Pos:=match e with
 |.Name _ p=>p
 |_=>default
def u0(e:Expr):ZI:=match e with
 |.ListComp elt gs sc p=>dg (gs[0]?) (fun g=>⟨elt,g.iter,OZ g.target,sc,p⟩) ⟨default,default,default,default,default⟩
 |_=>⟨default,default,default,default,default⟩
def Im(P:Params)(f:Addr):WS:=YR (YS (eA (bodyOf (KF P) f) 0))
def rn(P:Params)(f:Addr):ZI:=u0 (((Im P f).a[0]?).getD default)
abbrev j8(P:Params)(f:Addr):Expr:=.ListComp (rn P f).elt [⟨.Name "c" (rn P f).py,(rn P f).it,[],0⟩] (rn P f).sc (rn P f).p
def XT(P:Params)(f:Addr):List Stmt:=[.Return (some (.Call (.Attribute (Pc (Im P f).f).1 "join" (Pc (Im P f).f).2) [j8 P f] [] (Im P f).p)) (match eA (bodyOf (KF P) f) 0 with | .Return _ p=>p|_=>default)]
def XN(P:Params)(f:Addr):Bool:=Eo (R3 P [] []) (rn P f).it (dh P f [("text",.lf (.sym 0))] [] 20) (.lf (.sym 0))&&((sO (rn P f).sc&&fE (rn P f).it)&&(((rn P f).sc.names.lookup ("c" : Str)==some .local)&&(baseOk (Pc (Im P f).f).1&&(((Pc (Im P f).f).2.endLine==(Im P f).p.line)&&(decide (1<20)&&[j8 P f].all plainArg)))))
theorem Ac(P):(bodyOf (KF P) 35=XT P 35)/\bodyOf (KF P) 779=XT P 779:=⟨by kernel_rfl,by kernel_rfl⟩
theorem FY(P:Params):(XN P 35&&XN P 779)=true:=by kernel_rfl
theorem UE(P)(R:Rc)(s):(R.step (KF P) [] [] dG (lU [])).ev (Pc (Im P 35).f).1 s=some (.lf (.str ⟨#[]⟩),s)/\(R.step (KF P) [] [] dG (lU [])).ev (Pc (Im P 779).f).1 s=some (.lf (.str ⟨#[]⟩),s):=⟨by kernel_rfl,by kernel_rfl⟩
noncomputable def cL(v:AV):List (Str×AV):=[("c",v)]
def Ux(P:Params)(f:Addr)(c:Nat)(a:List AV):St:=⟨(rn P f).sc,cL (.lf (ch c)),[.list a],20⟩
theorem Vl(P)(acc):([35,779].map fun f=>AL.map fun c=>(R3 P [] []).ev (rn P f).elt (Ux P f c acc))=[35,779].map fun f=>AL.map fun c=>some (.lf (ch (lo1 c)),Ux P f c acc):=by kernel_rfl
section
variable{P:Params}{Z:Heap×Program×World}{f:Addr}{x:List Nat}{d:Nat}
def SJ(x:List Nat):List AV:=(x.map fun c=>[c]).map tx |>.map .lf
theorem MK:SJ (a++b)=SJ a++SJ b:=by unfold SJ;exact eL aO (eL aO (eL aO rfl))
variable(G:Good (cx P Z))
include G
theorem Pm(b:f∈[35,779])(e:c∈AL)(l)(acc)(a:put "c" (.lf (ch c)) l=cL (.lf (ch c))):iD (cx P Z) (rn P f).elt ⟨(rn P f).sc,put "c" (.lf (ch c)) l,[.list acc],20⟩ (.lf (ch (lo1 c))) ⟨(rn P f).sc,put "c" (.lf (ch c)) l,[.list acc],20⟩:=by
 exact eL a (fun F Ω H=>(gU G (fun _ h=>iS h) eY (jf G) 400).ev F Ω _ Ω .refl _ H |>.of (bz.mp (bz.mp (Vl P acc) f b) c e))
theorem TA(e:f∈[35,779])(i:(rn P f).sc.names.lookup ("c" : Str)=some .local):∀x l a,(∀c∈x,c∈AL)->(∀v,put "c" v l=cL v)->a.length+x.length<=big->
  ∃l',Za (cx P Z) (rn P f).elt "c" 0 x.length (.str x) ⟨(rn P f).sc,l,[.list a],20⟩ ⟨(rn P f).sc,l',[.list (a++SJ (x.map lo1))],20⟩:=by
 intro x;induction x with
 |nil=>
  intro l a _ _ _;exact⟨l,by exact eL (rfl:SJ ([].map lo1)=[]) (eL (aF ..) (.stop rfl rfl))⟩
 |cons c r j=>
  intro l a h b hb;rw [ay] at hb;refine cN (j (cL (.lf (ch c))) (a++[.lf (ch (lo1 c))]) (fun z g=>h z (.tail _ g)) (fun v=>rfl) (by refine eL aa ?_;exact dN 0x10F2C1C904F2CC910 tt hb)) fun l' k=>?_
  refine⟨l',.turn rfl i (Pm G e (h c (.head _)) l a (b _)) (SV:=⟨(rn P f).sc,cL (.lf (ch c)),[.list (a++[.lf (ch (lo1 c))])],20⟩) ?_ ?_⟩
  .show (gd (decide (a.length<=big)) _) _=_;refine eL (bo (show a.length<=big by exact dN 0x10F204F2CC910 tt hb)) ?_;show some (_,(⟨_,put "c" _ l,_,_⟩:St))=_;refine eL (b ..) ?_;rfl
  .exact eL map_cons (eL (show(lo1 c::r.map lo1)=[lo1 c]++r.map lo1 from rfl) (eL MK (eR (aw ..) k)))
theorem Dz(b:f∈[35,779])(q:∀c∈x,c∈AL)(g:x.length<=10000)(hd:20<=d):cG (cx P Z) (bodyOf (KF P) f) (dh P f [("text",.lf (tx x))] [] d) (.ret (.lf (tx (x.map lo1)))) []:=by
 have k:XN P f=true/\bodyOf (KF P) f=XT P f/\∀(R:Rc) s,(R.step (KF P) [] [] dG (lU [])).ev (Pc (Im P f).f).1 s=some (.lf (.str ⟨#[]⟩),s):=by
  rcases aU.mp b with rfl|b
  .exact ⟨(bS (FY P)).1,(Ac P).1,fun R s=>(UE P R s).1⟩
  .obtain rfl:=aB.mp b;exact⟨(bS (FY P)).2,(Ac P).2,fun R s=>(UE P R s).2⟩
 refine fq k fun h n m=>(bY (bS h) fun u a=>(bY (bS a) fun a e=>(bY (bS a) fun a l=>(bY (bS e) fun e v=>(cN (TA G b (aC.mp e) x [] [] q (fun _=>rfl) (by exact gC 0x10F0B4B2B4BFB8C084F0B1B7BA0 tt g)) fun l' co=>?_)))))
 have r:=yK.of G (rT G (gK (L:=[tx x]) rfl bR bU) u) rfl;have t:=iD.comp (pos:=(rn P f).p) (py:=(rn P f).py) a l r (QI co);have j:=iD.join G t rfl (by
  exact eL (show((x.map lo1).map fun c=>[c]).flatten=x.map lo1 from List.flatMap_singleton' _) (eL (aj ..) (gC 0x10F0B4B2B4BFB804F0B1B7BA0 tt g))) m v
 exact cG.deep (eL n (dz.Xf (dz.ret G (eR (List.flatMap_singleton' _:((x.map lo1).map fun c=>[c]).flatten=x.map lo1) j)) fun i o z=>by exact cX z)) hd
end
section
open PySem.Builtin PySem.Builtin.Str
theorem Dc.str(S:α->List (Str×AV))(g)(i:sc.names.lookup y=some .local){ok:Nat->Prop}(step:∀a c,ok c->dz C b ⟨sc,put y (.lf (ch c)) (S a),obj,d⟩ .next ⟨sc,S (g a c),obj,d⟩):
  ∀T a,(∀c∈T,ok c)->Dc C (.Name y py) b T.length (.str T) ⟨sc,S a,obj,d⟩ .next ⟨sc,S (T.foldl g a),obj,d⟩:=by
 intro T;induction T with
 |nil=>exact fun _ _=>.stop rfl rfl rfl
 |cons c r f=>exact fun a h=>.turn rfl (.name i) (step a c (h c (.head _))) (.inl rfl) (f (g a c) fun x e=>h x (.tail _ e))
def cf(s:List Nat):List Nat:=dP [13] [10] (dP [13,10] [10] s)
inductive xB(raw:List Nat):Nat->bQ->List (List Nat)->Prop
 |nil:xB raw raw.length .none []
 |kept:xB raw raw.length (ch 13) [[10]]
 |all (h:raw≠[]) (h1:raw.length=1\/raw.getLast?≠some 13):xB raw 0 .none [cf raw]
 |some (d:List Nat) (h:raw=d++[13]) (hd:d≠[]):xB raw 0 .none [cf d,[10]]
def Wl(u:Option Nat):List (Str×AV):=match u with
 |none=>[]
 |some c=>[("c",.lf (ch c))]
structure mP(raw:List Nat):Prop where
 len:raw.length<=10000
 al:∀c∈raw,c∈AL
theorem Ug:∀c∈AL,c<300:=by decide
theorem vL:(dP [13,10] [10] s).length<=s.length/\(cf s).length<=s.length:=by
 have b:=(kz (a0:=13) (a:=[10]) (s.length+1) s).1;exact⟨b,ag ((kz ((dP [13,10] [10] s).length+1) (dP [13,10] [10] s)).1) b⟩
theorem yZ:(bQ.str "\r\n"=tx [13,10])/\(bQ.str "\n"=tx [10])/\bQ.str "\r"=tx [13]:=⟨by kernel_rfl,by kernel_rfl,by kernel_rfl⟩
theorem DC(a:s.length<=10000)(f:x.sub θ=tx s)(d:θ 19=tx (dP [13,10] [10] s))(b:θ 20=tx (cf s))(e:θ 21=int (cf s).length):Facts θ (WM x):=by
 refine bY (vL (s:=s)) fun c g=>(bP ?_ (bP ?_ (bP ?_ bR)))
 .show ew .qp [x.sub θ,.str "\r\n",.str "\n"]=some (θ 19);exact eL f (eL d (eL yZ.1 (eL yZ.2.1 (Em (by decide) (by show s.length+(s.length+1)*1<=1000000;exact gC 0x10F0B4B2B4BFB8CE9C9008F0B1B7BA0 tt a) (ag c (ag a (by decide)))))))
 .show ew .qp [θ 19,.str "\r",.str "\n"]=some (θ 20);exact eL d (eL b (eL yZ.2.2 (eL yZ.2.1 (Em (by decide) (by show(dP [13,10] [10] s).length+((dP [13,10] [10] s).length+1)*1<=1000000;exact cC 0x10F0B4B2B4BFB8CE9C9118F018F0B1B7BA0 tt a c) (ag g (ag a (by decide)))))))
 .show ew .len [θ 20]=some (θ 21);exact eL b (eL e kY)
section
variable(G:Good (cx P B))
include G
theorem Ym(hb:isLit f=true)(m:∀c∈x,c∈AL)(hd:20<=d):cG (cx P B) (bodyOf (KF P) 141) (dh P 141 (nT [("data",.lf (tx x))]) (cz 0 (sx raw n ck j dn f)) d) .next (cz 0 (sx raw n ck j dn f)):=by
 refine bY (bS (iR P).2.2.2.2.2.1) fun g l=>(bY (bS g) fun g ks=>(bY (bS g) fun g h=>?_))
 have fl:(sL raw n ck j dn f++[tx x]).all isLit=true:=by
  show(true&&(true&&(true&&(true&&(true&&(true&&(true&&(isLit f&&true))))))))=true;refine eL hb ?_;rfl
 have S:Sy (cx P B) (cT (sL raw n ck j dn f++[tx x])) [] []:=gK fl bR bU
 let L:Option Nat->List (Str×AV):=fun u=>("data",.lf (tx x))::("self",.obj 0)::Wl u
 have step:∀a (c:Nat),c∈AL->dz (cx P B) (Ie P).b ⟨mH (KF P) 141,put "c" (.lf (ch c)) (L a),cz 0 (sx raw n ck j dn f),20⟩ .next ⟨mH (KF P) 141,L (some c),cz 0 (sx raw n ck j dn f),20⟩:=fun a c k=>by
  have e:put "c" (.lf (ch c)) (L a)=L (some c):=by
   rcases a with _|u
   .kernel_rfl
   .kernel_rfl
  exact eL e (gH G S (ak.mp l c k))
 exact cG.deep (eL (by kernel_rfl:bodyOf (KF P) 141=[.For (.Name (Ie P).y (Ie P).py) (Ie P).e (Ie P).b [] (Ie P).p]) (eL (aC.mp h) (dz.Xf (dz.cons (lA.yc ks (yK.of G (rT G S g) rfl) (Dc.str L (fun _ c=>some c) (by kernel_rfl:(mH (KF P) 141).names.lookup ("c" : Str)=some .local) step x none m)) .nil) fun i o z=>z))) hd
abbrev rL(raw:List Nat)(n:Nat)(ck:List Nat)(k:Nat)(dn:List Nat)(a:bQ)(data:List Nat)(r:List bQ):List bQ:=sL raw n ck k dn a++[.none,.none,int (lc (dn++ck)).1,int (lc (dn++ck)).2,int (n+10240),tx data,int data.length,int (n+data.length)]++r
theorem Gz(hb:isLit c=true)(d:L.all isLit=true)(h:∀i,i<8->cT L i=cT (sL raw n ck k dn c) i)(e:cT L 10=int (lc (dn++ck)).1)(f:cT L 11=int (lc (dn++ck)).2)(a:b.sub (cT L)=c):fR ((cx P B).sy (cT L) Φ) (wk 0 (wO b) (.sym 3) (.sym 10) (.sym 11) 20):=by
 have p:=Og (raw:=raw) (n:=n) (j:=k) (dn:=dn) G hb (ah ck.length) (ah _);rw [take_length] at p;refine eO (lL d) rfl rfl ?_ ?_ ?_ p
 .show (⟨_,[("offset",AV.lf (cT L 3)),_],cz 0 ⟨cT L 0,cT L 1,cT L 2,cT L 3,cT L 4,cT L 5,cT L 6,b.sub (cT L)⟩,_⟩:St)=_;refine eL (h 0 (by decide)) (eL (h 1 (by decide)) (eL (h 2 (by decide)) (eL (h 3 (by decide)) (eL (h 4 (by decide)) (eL (h 5 (by decide)) (eL (h 6 (by decide)) (eL a ?_)))))));rfl
 .show Fl.ret (.tup [.lf (cT L 10),.lf (cT L 11)])=_;exact eL e (eL f rfl)
 .show cz 0 ⟨cT L 0,cT L 1,cT L 2,cT L 3,cT L 4,cT L 5,cT L 6,b.sub (cT L)⟩=_;refine eL (h 0 (by decide)) (eL (h 1 (by decide)) (eL (h 2 (by decide)) (eL (h 3 (by decide)) (eL (h 4 (by decide)) (eL (h 5 (by decide)) (eL (h 6 (by decide)) (eL a ?_)))))));rfl
end
end
section
open PySem.Builtin PySem.Builtin.Str
section
theorem Bh(a:raw.length<=10000)(c:n<=raw.length)(hd:raw.drop n=data){x:List Fact}(h:Facts (cT (rL raw n ck k dn b data r)) x):Facts (cT (rL raw n ck k dn b data r)) (Ir x):=by
 refine bP rfl (bP ?_ (bP kY (bP rfl h)));show ew .slice [tx raw,int n,int (n+10240)]=some (tx data);exact eL (pj (ag a (by decide))) (eL (take_of_length_le (by exact cC 0x10FC0B0B8BA104F0B1B7BA0 tt a)) (eL (hd ..) rfl))
theorem Ki{c:Nat}(h:c∈AL)(d:c≠13)(b:θ 16=ch c)(a:θ 17=int c)(e:θ 13=tx data)(hd:data.getLast?=some c)(hb:data.length<=big):Facts θ j7:=by
 refine bP ?_ (bP ?_ (bP ?_ (bP ?_ bR)))
 .show ew .idx [θ 13,.int (-1)]=some (θ 16);exact eL e (eL b (He hd hb))
 .show ew .ord [θ 16]=some (θ 17);refine eL b (eL a ?_);rfl
 .show ew .eq [θ 17,.int 13]=_;exact eL a (yg d)
 .show ew .le [.int 55296,θ 17]=_;refine eL a ?_;show some (bQ.bool (decide ((55296:Int)<=c)))=_;refine eL (bx (by exact fun z=>absurd (ofNat_le.mp z) (Nat.not_le.mpr (Nat.lt_trans (Ug c h) (by decide))))) ?_;rfl
variable(G:Good (cx P B))(R:mP raw)
include G R
theorem Hu(hb:isLit i=true)(l:L.all isLit=true)(d:cT L 0=tx raw)(a:cT L 15=int n)(g:cT L 10=int (lc dn).1)(e:cT L 11=int (lc dn).2)(f:b.sub (cT L)=i)(k:y.sub (cT L)=tx x)(h:∀c∈x,c∈AL):fR ((cx P B).sy (cT L) Φ) (MV 0 y (cleared b) 20):=by
 refine eO (lL l) rfl rfl ?_ rfl ?_ (Ym (raw:=raw) (n:=n) (ck:=[]) (dn:=dn) (j:=0) G hb h (ah _))
 .show (⟨_,[("data",AV.lf (y.sub (cT L))),_],cz 0 ⟨cT L 0,cT L 15,.str ⟨#[]⟩,.int 0,.int 0,cT L 10,cT L 11,b.sub (cT L)⟩,_⟩:St)=_;refine eL d (eL a (eL g (eL e (eL f (eL k ?_)))));rfl
 .show cz 0 ⟨cT L 0,cT L 15,.str ⟨#[]⟩,.int 0,.int 0,cT L 10,cT L 11,b.sub (cT L)⟩=_;refine eL d (eL a (eL g (eL e (eL f ?_))));rfl
abbrev YP(P:Params)(raw:List Nat)(n:Nat)(ck:List Nat)(k:Nat)(dn:List Nat)(a:bQ)(d:Nat):St:=dh P 134 (nT [("chunkSize",.lf .none)]) (cz 0 (sx raw n ck k dn a)) d
theorem FG(hd:21<=d):cG (cx P B) (bodyOf (KF P) 134) (YP P raw raw.length ck k dn .none d) (.ret (.lf (.bool false))) (cz 0 (sx raw raw.length [] 0 (dn++ck) .none)):=by
 have S:Sy (cx P B) (cT (rL raw raw.length ck k dn .none [] [])) (Ir [⟨.truth,[.sym 13],.bool false⟩]) [wk 0 (wO .none) (.sym 3) (.sym 10) (.sym 11) 20]:=
  gK rfl (Bh R.len (ah _) drop_length (bP rfl bR)) (cg (Gz G rfl rfl (by exact A5 rfl rfl rfl rfl rfl rfl rfl rfl) rfl rfl rfl) bU)
 exact cG.deep (dO G S (bS (iR P).1).1) hd
theorem yQ(H:xB raw n j (c::cs))(hd:21<=d):∃w A,xB raw w A cs/\cG (cx P B) (bodyOf (KF P) 134) (YP P raw n ck k dn j d) (.ret (.lf (.bool true))) (cz 0 (sx raw w c 0 (dn++ck) A)):=by
 refine bY (bS (iR P).1) fun _ q=>(bY (bS q) fun J q=>(bY (bS q) fun F q=>(bY (bS q) fun E D=>?_)))
 have lb:=R.len;have t:raw.length<=big:=ag lb (by decide);have ps:∀ {L:List bQ} {b:bQ} {Φ:List Fact},isLit j=true->L.all isLit=true->(∀i,i<8->cT L i=cT (sL raw n ck k dn j) i)->cT L 10=int (lc (dn++ck)).1->cT L 11=int (lc (dn++ck)).2->b.sub (cT L)=j->fR ((cx P B).sy (cT L) Φ) (wk 0 (wO b) (.sym 3) (.sym 10) (.sym 11) 20):=fun a b c d e f=>Gz G a b c d e f
 have r:∀ {L:List bQ} (i:Nat),i<8->cT (sL raw n ck k dn j++L) i=cT (sL raw n ck k dn j) i:=fun i hi=>by
  unfold cT;exact eL (aJ hi) rfl
 cases H with
 |kept=>
  refine dJ raw.length .none ⟨.nil,?_⟩;have S:Sy (cx P B) (cT (rL raw raw.length ck k dn (ch 13) [] [])) (Ir [⟨.add,[ch 13,.sym 13],ch 13⟩]) [wk 0 (wO (ch 13)) (.sym 3) (.sym 10) (.sym 11) 20,MV 0 (ch 13) (cleared .none) 20]:=
   gK rfl (Bh R.len (ah _) drop_length (bP (fX (by decide)) bR))
    (cg (ps rfl rfl r rfl rfl rfl) (cg (Hu G R rfl rfl rfl rfl rfl rfl rfl rfl (by decide)) bU))
  exact cG.deep (dO G S D) hd
 |all h o=>
  refine dJ raw.length .none ⟨.nil,?_⟩;have v:=jA h;obtain⟨c,l⟩:∃c,raw.getLast?=some c:=⟨_,List.getLast?_eq_some_getLast h⟩;have m:0+raw.length=raw.length:=Nat.zero_add _;have S:∀ {x:List Fact},Facts (cT (rL raw 0 ck k dn .none raw [ch c,int c,.none,tx (dP [13,10] [10] raw),tx (cf raw),int (cf raw).length])) x->Sy (cx P B) (cT (rL raw 0 ck k dn .none raw [ch c,int c,.none,tx (dP [13,10] [10] raw),tx (cf raw),int (cf raw).length])) (Ir x) [wk 0 (wO .none) (.sym 3) (.sym 10) (.sym 11) 20,MV 0 (.sym 13) (cleared .none) 20]:=fun s=>
   gK rfl (Bh R.len (zero_le _) rfl s) (cg (ps rfl rfl r rfl rfl rfl) (cg (Hu G R rfl rfl rfl (by show int (0+raw.length)=_;exact eL m rfl) rfl rfl rfl rfl R.al) bU))
  have y:=DC (θ:=cT (rL raw 0 ck k dn .none raw [ch c,int c,.none,tx (dP [13,10] [10] raw),tx (cf raw),int (cf raw).length])) (x:=.sym 13) lb rfl rfl rfl rfl;have fin:∀ {σ:St} {fl:Fl},cG (cx P B) (bodyOf (KF P) 134) σ fl (cz 0 ⟨tx raw,int (0+raw.length),tx (cf raw),int (cf raw).length,.int 0,int (lc (dn++ck)).1,int (lc (dn++ck)).2,.none⟩)->cG (cx P B) (bodyOf (KF P) 134) σ fl (cz 0 (sx raw raw.length (cf raw) 0 (dn++ck) .none)):=fun z=>by rw [m] at z;exact z
  rcases aV 1 raw.length with p|p
  .have C:c≠13:=fun z=>by
    rcases o with o|o
    .exact gC 0x15F096F90 tt o p
    .exact o (z▸l)
   exact fin (cG.deep (dO G (S (bP v (bP (WD p) (dI (Ki (R.al c (List.mem_of_getLast? l)) C rfl rfl rfl l t) y)))) F) hd)
  .have z:=dO G (S (bP v (bP (by
    show some (bQ.bool (decide ((1:Int)<(raw.length))))=_;refine eL (bx (by exact fun z=>Nat.not_lt.mpr p (ofNat_lt.mp z))) ?_;rfl) y))) J
   exact fin (cG.deep z hd)
 |some g h N=>
  subst h;refine dJ ((g++[13]).length) (ch 13) ⟨.kept,?_⟩;have u:g.length+1=(g++[13]).length:=(aa (bs:=[13])).symm;have m:0+(g++[13]).length=(g++[13]).length:=Nat.zero_add _;have S:∀ {x},Facts (cT (rL (g++[13]) 0 ck k dn .none (g++[13]) [.none,.none,tx g,tx (dP [13,10] [10] g),tx (cf g),int (cf g).length])) x->Sy (cx P B) (cT (rL (g++[13]) 0 ck k dn .none (g++[13]) [.none,.none,tx g,tx (dP [13,10] [10] g),tx (cf g),int (cf g).length])) (Ir x) [wk 0 (wO .none) (.sym 3) (.sym 10) (.sym 11) 20,MV 0 (.sym 18) (cleared (ch 13)) 20]:=fun s=>
   gK rfl (Bh R.len (zero_le _) rfl s) (cg (ps rfl rfl r rfl rfl rfl) (cg (Hu G R rfl rfl rfl (by show int (0+_)=_;exact eL m rfl) rfl rfl rfl rfl fun c l=>R.al c (mem_append_left _ l)) bU))
  have fin:∀ {σ} {fl},cG (cx P B) (bodyOf (KF P) 134) σ fl (cz 0 ⟨tx (g++[13]),int (0+(g++[13]).length),tx (cf g),int (cf g).length,.int 0,int (lc (dn++ck)).1,int (lc (dn++ck)).2,ch 13⟩)->cG (cx P B) (bodyOf (KF P) 134) σ fl (cz 0 (sx (g++[13]) (g++[13]).length (cf g) 0 (dn++ck) (ch 13))):=fun z=>by rw [m] at z;exact z
  have M:1<(g++[13]).length:=by have:=length_pos_iff.mpr N;exact cC 0x11F196F1C905F08 tt this u
  exact fin (cG.deep (dO G (S (bP (jA (by simp)) (bP (WD M) (dI (bP (He aX t) (bP (Qb t) bR)) (DC (by exact cC 0x10F0B1B7BA16F0C914F0B1B7BA0 tt lb u) rfl rfl rfl rfl))))) E) hd)
end
end
section
open PySem.Builtin PySem.Builtin.Str
def At(raw T:List Nat)(o:Nat)(S:Sx):Prop:=∃dn ck n k b a,S=sx raw n ck k dn b/\xB raw n b a/\T=dn++(ck++a.flatten)/\o=dn.length+k/\k<=ck.length
def SS(raw T:List Nat)(o:Nat)(S:Sx)(c:Nat):Prop:=∃dn ck n k b a,S=sx raw n ck (k+1) dn b/\xB raw n b a/\T=dn++(ck++a.flatten)/\o=dn.length+k/\ck[k]?=some c
def Sx.sub(θ:Nat->bQ)(S:Sx):Sx:=⟨S.raw.sub θ,S.place.sub θ,S.chunk.sub θ,S.size.sub θ,S.off.sub θ,S.pl.sub θ,S.pc.sub θ,S.buf.sub θ⟩
theorem xB.lit(h:xB raw n a b):isLit a=true:=by induction h<;>rfl
theorem Aw(hb:b≠[]):dP a b (c::s)≠[]:=by
 unfold dP;refine eL ay (eL (eV ..) ?_);split
 .exact fun z=>hb (List.append_eq_nil_iff.mp z).1
 .exact fun z=>YJ z
theorem Be{s:List Nat}(h:s≠[]):cf s≠[]:=by
 unfold cf;rcases s with _|⟨c,s⟩
 .exact absurd rfl h
 .have:=Aw (a:=[13,10]) (b:=[10]) (c:=c) (s:=s) (by decide);cases q:dP [13,10] [10] (c::s) with
  |nil=>exact absurd q this
  |cons d t=>exact Aw (by decide)
theorem xB.ne{n:Nat}(h:xB raw n f b):∀c∈b,c≠[]:=fun c a=>by
 induction h with
 |nil=>exact iS a
 |kept=>obtain rfl:=aB.mp a;decide
 |all e=>obtain rfl:=aB.mp a;exact Be e
 |some d h hd=>
  rcases aU.mp a with rfl|a
  .exact Be hd
  .obtain rfl:=aB.mp a;decide
section
variable{T:List Nat}
theorem SS.at(h:SS raw T o S c):At raw T (o+1) S:=by
 exact wY h fun dn ck n k f a b g i e d=>(SY dn ck n (k+1) f a ⟨b,g,i,dN 0x12FCC921C906FC210 tt e,(au.mp d).1⟩)
theorem pS(a:T=dn++(ck++b))(hT:T.length<=big):ck.length<=big:=by
 have:=az length a;rw [aa,aa] at this;exact rj 0x10F137FCC43204F10 tt hT this
variable(G:Good (cx P B))(R:mP raw)(hT:T.length<=big)
include G R hT
abbrev OJ(P:Params)(S:Sx)(d:Nat):St:=dh P 126 (nT []) (cz 0 S) d
theorem LF(hd:21<=d)(f:∀k,isLit (θ k)=true)(e:b.sub θ=sx raw raw.length ck k dn .none)(c:a.sub θ=sx raw raw.length [] 0 (dn++ck) .none):fR ((cx P B).sy θ Φ) (RR 0 b a false d):=
 eO f rfl rfl (by show(⟨_,nT [("chunkSize",.lf .none)],cz 0 (b.sub θ),d⟩:St)=_;refine eL e ?_;rfl) rfl (by show cz 0 (a.sub θ)=_;exact eL c rfl) (FG G R hd)
theorem Wm(v:At raw T o S)(hd:22<=d):(∀c,T[o]?=some c->∃f,SS raw T o f c/\cG (cx P B) (bodyOf (KF P) 126) (OJ P S d) (.ret (.lf (ch c))) (cz 0 f))/\(o=T.length->∃f,At raw T o f/\cG (cx P B) (bodyOf (KF P) 126) (OJ P S d) (.ret (.lf .none)) (cz 0 f)):=by
 refine wY v ?_;clear v;intro dn ck n k j y E g b e A;subst E;refine bY (bS (iR P).2.2.2.1) fun C m=>(bY (bS m) fun m F=>?_)
 have l:=az length b;rw [aa,aa] at l;have p:∀ {L:List bQ},L.all isLit=true->(sL raw n ck k dn j++L).all isLit=true:=fun h=>by
  refine eL all_append (eL h ?_);show(true&&(true&&(true&&(true&&(true&&(true&&(true&&(isLit j&&true))))))))&&true=true;refine eL g.lit ?_;rfl
 rcases aV k ck.length with q|q
 .have hg:=ao q;refine⟨fun c i=>?_,fun z=>by exact False.elim (OO 0x15F427FCC54137F306FC210 tt e z l q)⟩
  (injection ((by exact eL b (eL e (eL (aI (aK _ _)) (eL (ba ..) (eL (aJ q) (eL hg rfl))))):T[o]?=some ck[k]).symm.trans i) with r;subst r)
  exact⟨_,⟨dn,ck,n,k,j,y,rfl,g,b,e,hg⟩,(cG.deep (dO G (gK (p (L:=[.none,ch ck[k],int (k+1)]) rfl) (bP (Yy q) (bP (vQ hg (pS b hT)) (bP rfl bR))) bU) C) hd)⟩
 .have q:k=ck.length:=Nat.le_antisymm A q;subst q;rcases y with _|⟨c0,cs⟩
  .refine ⟨fun c i=>(cX (eR (aT (by exact rj 0x10F146FCC03247FC3216F80 tt (rfl:([]:List (List Nat)).flatten.length=0) e l)) i)),fun z=>?_⟩
   .obtain ⟨rfl,rfl⟩:n=raw.length/\j=.none:=by cases g<;>exact⟨rfl,rfl⟩
    refine⟨_,⟨dn++ck,[],raw.length,0,.none,[],rfl,.nil,by refine eL b ?_;exact WU,by refine eL aa ?_;assumption,ah _⟩,?_⟩;have lf:=p (L:=[.none,int raw.length,tx [],int ([]:List Nat).length,int 0,int (lc (dn++ck)).1,int (lc (dn++ck)).2,.none]) rfl;exact cG.deep (dO G (gK lf (bP (Nn (ah _)) bR) (cg (LF G R hT (ah 21) (lL lf) rfl rfl) bU)) m) hd
  .refine eF (yQ (dn:=dn) (ck:=ck) (k:=ck.length) G R g (ah _)) fun w s x t=>?_;have H:=g.ne c0 (.head _)
   induction c0 with
   |nil=>exact absurd rfl H
   |cons a c0=>
    have D:T[o]?=some a:=by refine eL b (eL e (eL (aI (aK _ _)) (eL (ba ..) (eL (aI (ah _)) (eL (sub_self ..) ?_)))));rfl
    refine⟨fun c i=>?_,fun z=>by exact False.elim (rj 0x15F487FCC42137F306FC210 tt e z l (succ_pos _:0<(((a::c0)::cs).flatten).length))⟩
    (injection (D.symm.trans i) with r;subst r)
    have u:T=(dn++ck)++((a::c0)++cs.flatten):=by refine eL b ?_;exact WU
    refine⟨_,⟨dn++ck,a::c0,w,0,s,cs,rfl,x,u,by refine eL aa ?_;assumption,rfl⟩,?_⟩;have lf:(sL raw n ck ck.length dn j++[.none,int w,tx (a::c0),int (a::c0).length,int 0,int (lc (dn++ck)).1,int (lc (dn++ck)).2,s,.none,ch a,int 1]).all isLit=true:=p (by
     show(true&&(true&&(true&&(true&&(true&&(true&&(true&&(isLit s&&(true&&(true&&(true&&true)))))))))))=true;refine eL x.lit ?_;rfl)
    exact cG.deep (dO G (gK lf (bP (Nn (ah _)) (bP (vQ rfl (pS u hT)) (bP rfl bR))) (cg (eO (lL lf) rfl rfl rfl rfl rfl t) bU)) F) hd
theorem XR(h:SS raw T o S c)(hd:22<=d):∃f,At raw T o f/\cG (cx P B) (bodyOf (KF P) 156) (dh P 156 (nT [("char",.lf (ch c))]) (cz 0 S) d) .next (cz 0 f):=by
 refine wY h ?_;clear h;intro dn ck n k a l j g e i b;subst j;refine⟨sx raw n ck k dn a,⟨dn,ck,n,k,a,l,rfl,g,e,i,le_of_lt (au.mp b).1⟩,?_⟩;have lf:(sL raw n ck (k+1) dn a++[.none,ch c,int k]).all isLit=true:=by
  show(true&&(true&&(true&&(true&&(true&&(true&&(true&&(isLit a&&(true&&(true&&(true&&true)))))))))))=true;refine eL g.lit ?_;rfl
 have z:=dO G (gK lf (bP rfl (bP (yg (succ_ne_zero k)) (bP (by
  show some (bQ.int (((k+1:Nat):Int)-1))=some (bQ.int (k:Int));exact eL (show((k+1:Nat):Int)-1=(k:Int) by exact Int.add_sub_cancel (k:Int) 1) rfl) (bP (vQ b (pS e hT)) (bP (Du) bR))))) bU) ((bS (iR P).2.2.2.2.1).1)
 exact cG.deep z hd
omit R hT in
theorem Kx(hb:At raw T o S)(hd:22<=d):cG (cx P B) (bodyOf (KF P) 156) (dh P 156 (nT [("char",.lf .none)]) (cz 0 S) d) .next (cz 0 S):=by
 refine wY hb ?_;clear hb;intro dn ck n k a e b c h g f;subst b;have lf:(sL raw n ck k dn a).all isLit=true:=by
  show(true&&(true&&(true&&(true&&(true&&(true&&(true&&(isLit a&&true))))))))=true;refine eL c.lit ?_;rfl
 exact cG.deep (dO G (gK lf bR bU) ((bS (iR P).2.2.2.2.1).2)) hd
theorem VW(f:At raw T o S)(hd:21<=d):cG (cx P B) (bodyOf (KF P) 119) (dh P 119 (nT []) (cz 0 S) d) (.ret (.tup [.lf (int ((lc (T.take o)).1+1)),.lf (int (lc (T.take o)).2)])) (cz 0 S):=by
 refine wY f ?_;clear f;intro dn ck n k b j g c i h a;subst g;have e:T.take o=dn++ck.take k:=by exact eL i (eL h (eL List.take_append (eL (take_of_length_le (aK _ _)) (eL (ba ..) (eL (List.take_append_of_le_length a) rfl)))))
 refine eL e ?_;have lf:(sL raw n ck k dn b++[.none,.none,int (lc (dn++ck.take k)).1,int (lc (dn++ck.take k)).2,int ((lc (dn++ck.take k)).1+1)]).all isLit=true:=by
  show(true&&(true&&(true&&(true&&(true&&(true&&(true&&(isLit b&&true))))))))=true;refine eL c.lit ?_;rfl
 exact cG.deep (dO G (gK lf (bP rfl bR) (cg (eO (lL lf) rfl rfl rfl rfl rfl (Og G c.lit a (ah _))) bU)) (iR P).2.2.1) hd
end
end
section
open PySem.Builtin PySem.Builtin.Str
noncomputable def sv(k:rS)(c:Nat):Bool:=k.l.contains c==k.xy
def jo(L:List bQ)(us:List (List Nat))(i:Nat):bQ:=bif Nat.blt i 40 then cT L i else((us[i-40]?).map tx).getD .none
def AD(us:List (List Nat)):List AV:=us.map fun u=>.lf (tx u)
section
theorem Oq(h:L.all isLit=true)(i):isLit (jo L us i)=true:=by
 unfold jo;rcases Nat.blt i 40 with _|_
 .rcases us[i-40]? with⟨⟩<;>rfl
 .exact lL h i
theorem QG:subs (jo L us) (oZ us.length)=AD us:=by
 refine eL (cP ..) (eL bh (ext_getElem? fun i=>(eL aH (eL aH ?_))));rcases aV i us.length with h|h
 .refine eL (getElem?_range h) (eL (ao h) ?_);show some (AV.lf (jo L us (40+i)))=_;unfold jo;refine eL (show Nat.blt (40+i) 40=false from eq_false_iff.mpr fun z=>by have:=Nat.le_of_ble_eq_true z;exact gC 0x14F8BAC9C08BA tt this) (eL (ba ..) (eL (ao h) ?_));rfl
 .refine eL (aT (eL length_range h)) (eL (aT h) ?_);rfl
theorem Hw(a:k∈oD):k.cs.sub θ=k.cs:=by
 have h:k=⟨uC,nr uC,false⟩\/k=⟨jY,.top (.ref 15),true⟩\/k=⟨vE,nr vE,false⟩\/k=⟨[0],.lf (ch 0),false⟩:=by
  simpa only [oD,aU,List.not_mem_nil,or_false] using a
 clear a;rcases h with rfl|rfl|rfl|rfl<;>kernel_rfl
theorem ub(a:k∈oD)(l):cY θ (yq k++l)=yq k++cY θ l:=by
 have h:cY θ (yq k++l)=(("opposite",.lf (.bool k.xy))::("characters",k.cs.sub θ)::("self",.obj 0)::cY θ l:List (Str×AV)):=rfl;refine eL h (eL (Hw a) ?_);rfl
theorem uq(a:k∈oD):cY θ (uH k e)=uH k (e.sub θ):=by
 unfold uH BH;refine eL (aw ..) (eL (ub a ..) (eL (aw ..) ?_));rfl
theorem Bg(a:k∈oD):cY θ (BH k)=BH k:=ub a _
theorem sW:(lS S (oZ us.length++y)).map (AO.sub (jo L us))=lS (S.sub (jo L us)) (AD us++subs (jo L us) y):=by
 show cz 0 (S.sub (jo L us))++[AO.list (subs (jo L us) (oZ us.length++y))]=_;refine eL (cP ..) (eL aO (eR (cP ..) (eR (cP ..) (eL QG ?_))));rfl
theorem wK:(lS S (oZ us.length)).map (AO.sub (jo L us))=lS (S.sub (jo L us)) (AD us):=by
 have:=sW (S:=S) (L:=L) (us:=us) (y:=[])
 rwa [aF,show AD us++subs (jo L us) []=AD us from aF _] at this
abbrev CV(P:Params)(k:rS)(S:Sx)(e:bQ)(us:List (List Nat)):St:=dh P 149 (uH k e) (lS S (AD us)) 22
abbrev Zs(P:Params)(k:rS)(S:Sx)(us:List (List Nat)):St:=dh P 149 (BH k) (lS S (AD us)) 22
theorem eP(a:k∈oD):St.sub (jo L us) (Dd P 22 k e us.length)=CV P k ((cq 0).sub (jo L us)) (e.sub (jo L us)) us:=by
 show(⟨_,cY _ (uH k e),(lS (cq 0) (oZ us.length)).map (AO.sub (jo L us)),_⟩:St)=_;refine eL (uq a) (eL wK ?_);rfl
end
section
theorem Nf:ew .Na [ch c,tx l]=some (.bool (decide (c∈l))):=az (fun b=>some (bQ.bool b)) (StrLaws.found_one ⟨l.toArray⟩ c)
variable{ck:List Nat}{us:List (List Nat)}
theorem CU(b:L.all isLit=true)(c:Facts (jo L us) Φ)(a:dT (C.sy (jo L us) Φ) Es):Sy C (jo L us) Φ Es:=⟨Oq b,c,a⟩
theorem iQ(hb:isLit a=true)(h:L.all isLit=true):(sL raw n ck j dn a++L).all isLit=true:=by
 refine eL all_append (eL h ?_);show(true&&(true&&(true&&(true&&(true&&(true&&(true&&(isLit a&&true))))))))&&true=true;refine eL hb ?_;rfl
variable(G:Good (cx P B))(hk:k∈oD)(hb:isLit bf=true)(hc:ck.length<=big)(hr:us.length<3)
include G hk hb hc hr
theorem nE:b7 P 22 21 k us.length=true:=ak.mp (bS (bS (ak.mp (iR P).2.2.2.2.2.2 k hk)).1).2 us.length (bJ.mpr hr)
theorem VF(i:ck[e]?=some c):fx (cx P B) (Ij P).t (CV P k (sx raw n ck j dn bf) (int e) us) (sv k c) (CV P k (sx raw n ck j dn bf) (int e) us):=by
 refine bY (bS (bS (nE G hk hb hc hr)).2) fun o _=>(bY (bS o) fun m b=>(bY (bS b) fun b _=>?_))
 have lf:=iQ (raw:=raw) (n:=n) (ck:=ck) (j:=j) (dn:=dn) (L:=[int e,ch c]) hb rfl;have f:∀l:bQ,l.sub (jo (sL raw n ck j dn bf++[int e,ch c]) us)=ch c->Facts (jo (sL raw n ck j dn bf++[int e,ch c]) us) (Xt l):=fun l p=>bP (yg (ne_of_lt ((au.mp i).1))) (bP (by
  show ew .idx [tx ck,int e]=some (l.sub _);exact eL p (vQ i hc)) bR)
 by_cases q:c∈k.l
 .have h:=pI G (CU lf (f (ch c) rfl) bU) (ak.mp m c q);rw [eP hk] at h;have g:sv k c=k.xy:=by unfold sv;rw [contains_iff_mem.mpr q];rcases k.xy with⟨⟩<;>rfl
  exact eL g h
 .have ne:Facts (jo (sL raw n ck j dn bf++[int e,ch c]) us) (Ik (.sym 9) k.l):=by
   refine bP rfl (bP rfl fun x a=>(bW (mem_flatMap.mp a) fun d hd a=>?_));have ne:c≠d:=fun z=>q (z▸hd)
   have a:=a;rcases aU.mp a with rfl|a
   .exact jN ne
   rcases aU.mp a with rfl|a
   .exact jN ne.symm
   .obtain rfl:=aB.mp a;show ew .Na [ch c,tx [d]]=_;refine eL Nf (eL (bx (by simpa using ne)) ?_);rfl
  have h:=pI G (CU lf (dI (f (.sym 9) rfl) ne) bU) b;rw [eP hk] at h;have g:sv k c=!k.xy:=by unfold sv;rw [eq_false_iff.mpr fun z=>q (contains_iff_mem.mp z)];rcases k.xy with⟨⟩<;>rfl
  exact eL g h
theorem TY:∀(w:List Nat) e,ck.drop e=w++rest->e<=ck.length->(∀c∈w,sv k c=true)->(∀x r,rest=x::r->sv k x=false)->Sr (cx P B) (Ij P).t (Ij P).b w.length (CV P k (sx raw n ck j dn bf) (int e) us) (CV P k (sx raw n ck j dn bf) (int (e+w.length)) us):=by
 intro w;induction w with
 |nil=>exact fun e h g _ a=>.stop (by
  rcases rest with _|⟨x,r⟩
  .have le:e=ck.length:=by have:=az length h;rw [bw] at this;have z:([]++[]:List Nat).length=0:=rfl;exact kF 0x12F326F3C217F017F80 tt z this (aq (cC 0x10F104F10 tt g))
   have t:=pI G (CU (us:=us) (iQ (raw:=raw) (n:=n) (j:=j) (dn:=dn) (L:=[int e]) hb rfl) (bP (by show ew .eq [int e,int ck.length]=_;exact eL le qv) bR) bU) (bS ((bS (bS (bS (bS (nE G hk hb hc hr)).2).1).2).2)).1;rw [eP hk] at t;exact t
  .refine eR (a x r rfl) ?_;exact VF G hk hb hc hr (by have:=az (fun l=>l[0]?) h;rw [getElem?_drop] at this;exact this))
 |cons c w f=>
  intro e h g hw a;have i:ck[e]?=some c:=by have:=az (fun l=>l[0]?) h;rw [getElem?_drop] at this;exact this
  have t:=VF (raw:=raw) (n:=n) (j:=j) (dn:=dn) G hk hb hc hr i;rw [hw c (.head _)] at t;have b:=gH G (CU (us:=us) (iQ (raw:=raw) (n:=n) (ck:=ck) (j:=j) (dn:=dn) (L:=[int e,.none,int (e+1)]) hb rfl) (bP rfl bR) bU) ((bS (bS (bS (bS (bS (nE G hk hb hc hr)).2).1).2).2).2);rw [eP hk,show St.sub _ (St.to (Dd P 22 k (.sym 8) us.length) (uH k (.sym 10)) (lS (cq 0) (oZ us.length)))=_ from eP hk] at b;have f:=f (e+1) (by refine eR br (eL h ?_);rfl) (au.mp i).1 (fun d hd=>hw d (.tail _ hd)) a;exact eL (show e+(c::w).length=e+1+w.length by exact eL ay (cC 0x12FC1C90CC910 tt)) (.turn t b f)
end
end
section
open PySem.Builtin PySem.Builtin.Str
def ND(P:Params)(k:rS)(S:Sx)(us:List (List Nat))(u:Option bQ):St:=match u with
 |none=>Zs P k S us
 |some e=>CV P k S e us
section
theorem Ah{us a:List (List Nat)}:AD (us++a)=AD us++AD a:=aO
abbrev Vc(raw:List Nat)(n:Nat)(ck:List Nat)(j:Nat)(dn:List Nat)(a:bQ)(e:Nat)(x:List Nat)(r:List bQ):List bQ:=sL raw n ck j dn a++([int e,tx x,.none,.none,.none,.none,.none,.none,.none]++r)
variable(G:Good (cx P B))(hk:k∈oD)
include G hk
theorem vG(hb:isLit c=true)(m:ck.length<=big)(hr:us.length<3)(d:∀e,u=some e->isLit e=true):fx (cx P B) (rP P).t (ND P k (sx raw n ck j dn c) us u) true (ND P k (sx raw n ck j dn c) us u)/\lA (cx P B) (eA (rP P).b 0) (ND P k (sx raw n ck j dn c) us u) .next (CV P k (sx raw n ck j dn c) (int j) us):=by
 refine bY (bS (bS (nE G hk hb m hr)).1) fun f a=>(bY (bS a) fun g a=>(bY (bS a) fun l i=>?_))
 rcases u with _|e
 .have S:Sy (cx P B) (jo (sL raw n ck j dn c++[]) us) [] []:=CU (iQ hb rfl) bR bU;have h:St.sub (jo (sL raw n ck j dn c++[]) us) (dh P 149 (BH k) (lS (cq 0) (oZ us.length)) 22)=Zs P k (sx raw n ck j dn c) us:=by
   show(⟨_,cY _ (BH k),(lS (cq 0) (oZ us.length)).map (AO.sub (jo (sL raw n ck j dn c++[]) us)),_⟩:St)=_;refine eL (Bg hk) (eL wK ?_);rfl
  have t:=pI G S f;have x:=pP G S l;rw [h] at t x;rw [show St.sub _ (St.to (dh P 149 (BH k) (lS (cq 0) (oZ us.length)) 22) (uH k (.sym 4)) (lS (cq 0) (oZ us.length)))=_ from eP hk] at x;exact⟨t,x⟩
 .have S:Sy (cx P B) (jo (sL raw n ck j dn c++[e]) us) [] []:=CU (iQ hb (by refine eL all_cons (eL (d e rfl) ?_);rfl)) bR bU;have t:=pI G S g;have x:=pP G S i;rw [eP hk] at t x;rw [show St.sub _ (St.to (Dd P 22 k (.sym 8) us.length) (uH k (.sym 4)) (lS (cq 0) (oZ us.length)))=_ from eP hk] at x;exact⟨t,x⟩
omit G hk in
theorem uv(P:Params):(rP P).b=eA (rP P).b 0::.While (Ij P).t (Ij P).b [] (Ij P).p::(rP P).b.drop 2:=by kernel_rfl
theorem Ox(hb:isLit g=true)(f:ck.length<=big)(hr:us.length<3)(q:∀e,u=some e->isLit e=true){x:Nat}{r:List Nat}(h:ck.drop j=w++x::r)(hw:∀c∈w,sv k c=true)(v:sv k x=false):
  ∃i,i.length<=us.length+1/\i.flatten=us.flatten++w/\Sr (cx P B) (rP P).t (rP P).b 0 (ND P k (sx raw n ck j dn g) us u) (CV P k (sx raw n ck (j+w.length) dn g) (int (j+w.length)) i):=by
 refine bY (vG (raw:=raw) (n:=n) (ck:=ck) (j:=j) (dn:=dn) (u:=u) G hk hb f hr q) fun m o=>(bY (bS (nE (us:=us) G hk hb f hr)) fun _ a=>(bY (bS a) fun _ a=>(bY (bS a) fun C a=>(bY (bS a) fun s _=>?_))))
 have lt:j+w.length<ck.length:=by
  have:=az length h;rw [bw,aa,ay] at this;exact rj 0x11F2C317FCC94306F2C10 tt (tW (dN 0x11F087FCC9210 tt this)) this
 have l:=lA.while (pos:=(Ij P).p) (TY (raw:=raw) (n:=n) (j:=j) (dn:=dn) (us:=us) G hk hb f hr w j h (by exact dN 0x10F205F2C10 tt lt) hw fun y D z=>by(injection z with A;subst A);exact v);rcases w with _|⟨d,w⟩
 .have b:=gH G (CU (us:=us) (iQ (raw:=raw) (n:=n) (ck:=ck) (j:=j) (dn:=dn) (L:=[]) hb rfl) (bP qv (bP (yg (ne_of_lt lt)) bR)) bU) C;rw [eP hk,aF (oZ us.length),show St.sub _ (St.to (Dd P 22 k (.sym 4) us.length) (uH k (.sym 4)) (lS (cq 0) (oZ us.length)))=_ from eP hk] at b;exact⟨us,aE _,(aF _).symm,.brk m (eL (uv P) (dz.cons o (dz.cons l b)))⟩
 .have b:=gH G (CU (us:=us) (iQ (raw:=raw) (n:=n) (ck:=ck) (j:=j) (dn:=dn) (L:=[int (j+(d::w).length),tx (d::w)]) hb rfl) (bP (yg (by exact eL ay (bC (cC 0x11FCC9100 tt)))) (bP (yg (ne_of_lt lt)) (bP (by
   show ew .slice [tx ck,int j,int (j+(d::w).length)]=some (tx (d::w));exact eL (pj f) (eL (by exact eL drop_take (eL h (eL (ba ..) (eL take_left rfl))):((ck.take (j+(d::w).length)).drop j)=d::w) rfl)) bR))) bU) s
  have e2:St.sub (jo (sL raw n ck j dn g++[int (j+(d::w).length),tx (d::w)]) us) (St.to (Dd P 22 k (.sym 8) us.length) (uH k (.sym 8)) (lS ((cq 0).at (.sym 8)) (oZ us.length++[.lf (.sym 9)])))=CV P k (sx raw n ck (j+(d::w).length) dn g) (int (j+(d::w).length)) (us++[d::w]):=by
   show(⟨_,cY _ (uH k (.sym 8)),(lS ((cq 0).at (.sym 8)) (oZ us.length++[.lf (.sym 9)])).map (AO.sub _),_⟩:St)=_;refine eL (uq hk) (eL sW ?_);show(⟨_,_,lS _ (AD us++[.lf (tx (d::w))]),_⟩:St)=dh _ _ _ (lS _ (AD (us++[d::w]))) _;refine eL Ah ?_;rfl
  rw [eP hk,e2] at b;exact⟨us++[d::w],by exact eL aa (ah _),by refine eL List.flatten_append ?_;simp,.brk m (eL (uv P) (dz.cons o (dz.cons l b)))⟩
theorem EI(hb:isLit l=true)(o:ck.length<=big)(hr:us.length<3)(x:∀e,u=some e->isLit e=true)(r:j<=ck.length)(hw:∀c∈ck.drop j,sv k c=true){i m:Nat}{d g:List Nat}{h:bQ}(D:isLit h=true){more:Bool}
  (t:cG (cx P B) (bodyOf (KF P) 134) (YP P raw n ck j dn l 21) (.ret (.lf (.bool more))) (cz 0 (sx raw i d m g h))):
  fx (cx P B) (rP P).t (ND P k (sx raw n ck j dn l) us u) true (ND P k (sx raw n ck j dn l) us u)/\dz (cx P B) (rP P).b (ND P k (sx raw n ck j dn l) us u) (bif more then .next else .brk) (CV P k (sx raw i d m g h) (int ck.length) (us++[ck.drop j])):=by
 refine bY (vG (raw:=raw) (n:=n) (ck:=ck) (j:=j) (dn:=dn) (u:=u) G hk hb o hr x) fun A H=>(bY (bS (nE (us:=us) G hk hb o hr)) fun _ a=>(bY (bS a) fun _ a=>(bY (bS a) fun _ a=>(bY (bS a) fun _ a=>(bY (bS (ak.mp a more (by induction more<;>decide))) fun F C=>?_)))))
 have le:j+(ck.drop j).length=ck.length:=by exact eL bw (dN 0x12F2C016F2C10 tt (aq (cC 0x10F104F10 tt r)))
 have w:=lA.while (pos:=(Ij P).p) (TY (raw:=raw) (n:=n) (j:=j) (dn:=dn) (us:=us) (rest:=[]) G hk hb o hr (ck.drop j) j (aF _).symm r hw fun y J z=>KZ z);rw [le] at w;have lf:=iQ (raw:=raw) (n:=n) (ck:=ck) (j:=j) (dn:=dn) (L:=[int ck.length,tx (ck.drop j),.none,.none,.none,.none,.none,.none,.none]++[int i,tx d,int d.length,int m,int (lc g).1,int (lc g).2,h]) hb (by
  show(true&&(true&&(true&&(true&&(true&&(true&&(true&&(true&&(true&&(true&&(true&&(true&&(true&&(true&&(true&&(isLit h&&true))))))))))))))))=true;refine eL D ?_;rfl)
 have E:∀ {Φ:List Fact},dT ((cx P B).sy (jo (Vc raw n ck j dn l ck.length (ck.drop j) [int i,tx d,int d.length,int m,int (lc g).1,int (lc g).2,h]) us) Φ) [RR 0 (cq 0) (cq 2) more 21]:=cg (eO (e:=RR 0 (cq 0) (cq 2) more 21) (Oq lf) rfl rfl rfl rfl rfl t) bU;have sl:=Rp o r;have v:∀f:Fl,(bif more then Fl.next else Fl.brk).sub (jo (Vc raw n ck j dn l ck.length (ck.drop j) [int i,tx d,int d.length,int m,int (lc g).1,int (lc g).2,h]) us)=(bif more then Fl.next else Fl.brk):=fun _=>by rcases more with⟨⟩<;>rfl
 have e2:∀y:bQ,y.sub (jo (Vc raw n ck j dn l ck.length (ck.drop j) [int i,tx d,int d.length,int m,int (lc g).1,int (lc g).2,h]) us)=int ck.length->St.sub (jo (Vc raw n ck j dn l ck.length (ck.drop j) [int i,tx d,int d.length,int m,int (lc g).1,int (lc g).2,h]) us) (St.to (Dd P 22 k y us.length) (uH k y) (lS (cq 2) (oZ us.length++[.lf (.sym 9)])))=CV P k (sx raw i d m g h) (int ck.length) (us++[ck.drop j]):=fun y s=>by
  show(⟨_,cY _ (uH k y),(lS (cq 2) (oZ us.length++[.lf (.sym 9)])).map (AO.sub _),_⟩:St)=_;refine eL (uq hk) (eL sW (eL s ?_));show(⟨_,_,lS _ (AD us++[.lf (tx (ck.drop j))]),_⟩:St)=dh _ _ _ (lS _ (AD (us++[ck.drop j]))) _;refine eL Ah ?_;rfl
 refine⟨A,(eL (uv P) (dz.cons H (dz.cons w ?_)))⟩;rcases aV j ck.length with q|q
 .have b:=gH G (CU (us:=us) lf (bP (yg (by exact bC (cC 0x11F105F10 tt q))) (bP qv (bP sl bR))) E) C;rw [eP hk,e2 _ rfl,v .next] at b;exact b
 .have q:=Nat.le_antisymm r q;have s:bQ.sub (jo (Vc raw n ck j dn l ck.length (ck.drop j) [int i,tx d,int d.length,int m,int (lc g).1,int (lc g).2,h]) us) (.sym 4)=int ck.length:=az int q;have b:=gH G (CU (us:=us) lf (bP qv (bP (by show ew .eq [int j,int ck.length]=_;exact eL q qv) (bP sl bR))) E) F;rw [eP hk,e2 _ s,v .next,s] at b;exact b
end
end
section
open PySem.Builtin PySem.Builtin.Str
section
variable{raw T ck dn w rest:List Nat}{us:List (List Nat)}{n j o e c:Nat}{bf l:bQ}{k:rS}{Es:List Ent}{u:Option bQ}{S:Sx}{d:Nat}{jP:List (List Nat)}
theorem xB.B2(h:xB raw n bf jP):jP.length<=2:=by induction h<;>first|exact ah _|exact zero_le _|exact aE _
variable(G:Good (cx P B))(R:mP raw)(hT:T.length<=big)(hk:k∈oD)
include G R hT hk
theorem QC:∀jP n ck j dn bf us u w,xB raw n bf jP->us.length+jP.length<3->T=dn++(ck++jP.flatten)->j<=ck.length->ck.drop j++jP.flatten=w++rest->(∀c∈w,sv k c=true)->(∀x r,rest=x::r->sv k x=false)->(∀e,u=some e->isLit e=true)->
  ∃m C E a,At raw T (dn.length+j+w.length) C/\isLit E=true/\a.length<=3/\a.flatten=us.flatten++w/\Sr (cx P B) (rP P).t (rP P).b m (ND P k (sx raw n ck j dn bf) us u) (CV P k C E a):=by
 intro jP;induction jP with
 |nil=>
  intro n ck j dn bf us u w h i f g hw hg D s;have y:=pS f hT;have hb:=h.lit;have hw:ck.drop j=w++rest:=by exact eR hw ((aF _).symm)
  have hr:=i;rcases p:rest with _|⟨x,r⟩
  .rw [p,aF] at hw;obtain⟨rfl,rfl⟩:n=raw.length/\bf=.none:=by cases h<;>exact⟨rfl,rfl⟩
   refine bY (EI G hk hb y hr s g (eL hw hg) rfl (FG (dn:=dn) G R (ah _))) fun F b=>?_;have N:=az length hw
   rw [bw] at N;have H:T=(dn++ck)++([]++([]).flatten):=by refine eL f ?_;exact WU
   exact oP 0 _ _ (us++[ck.drop j]) ⟨⟨dn++ck,[],raw.length,0,.none,[],rfl,.nil,H,eL aa (rj 0x12FC8C34C1C246F3C207F10 tt N (aq (cC 0x10F104F10 tt g))),ah _⟩,rfl,eL aa hr,by refine eL List.flatten_append (eR hw ?_);simp,.brk F b⟩
  .rw [p] at hw;refine cS (Ox (raw:=raw) (n:=n) (dn:=dn) G hk hb y hr s hw hg (D x r p)) fun a J M t=>?_
   have lt:=az length hw;rw [bw,aa,ay] at lt;exact oP 0 _ _ a ⟨⟨dn,ck,n,j+w.length,bf,[],rfl,h,f,dN 0x12FCC210C2C10 tt,rj 0x10F4C136F4C307FCC9210 tt lt (aq (cC 0x10F104F10 tt g))⟩,rfl,dN 0x10F3B824FC9025F3B8C10 tt i J,M,t⟩
 |cons c0 cs ih=>
  intro n ck j dn bf us u w h i f g hw hg D s;have y:=pS f hT;have hb:=h.lit;have hr:=Nat.lt_of_le_of_lt (aK _ _) i;rcases aV w.length (ck.drop j).length with q|q
  .obtain ⟨x,r,e⟩:∃x r,ck.drop j=w++x::r/\∃v,rest=x::v:=by
    have e:=az (take (ck.drop j).length) hw;rw [take_left,List.take_append,take_of_length_le (le_of_lt q)] at e;rcases p:rest with _|⟨x,v⟩
    .rw [p,List.take_nil,aF] at e;rw [e] at q;exact absurd q (lt_irrefl _)
    .obtain ⟨m,hm⟩:∃m,(ck.drop j).length-w.length=m+1:=⟨_,(Nat.succ_pred_eq_of_pos (Nat.sub_pos_of_lt q)).symm⟩;exact dJ x _ ⟨(eR List.take_succ_cons (eR hm (eR p e))),v,rfl⟩
   refine bY e fun e U=>(cN U fun v z9=>(cS (Ox (raw:=raw) (n:=n) (dn:=dn) G hk hb y hr s e hg (D x v z9)) fun a J M t=>?_))
   have lt:=az length e;rw [bw,aa,ay] at lt;exact oP 0 _ _ a ⟨⟨dn,ck,n,j+w.length,bf,c0::cs,rfl,h,f,dN 0x12FCC210C2C10 tt,rj 0x10F4C136F4C307FCC9210 tt lt (aq (cC 0x10F104F10 tt g))⟩,rfl,dN 0x10F3B824FC9025F3B8C10 tt i J,M,t⟩
  .obtain ⟨A,rfl⟩:∃A,w=ck.drop j++A:=by
    have e:=az (take (ck.drop j).length) hw;rw [take_left,List.take_append_of_le_length q] at e;exact⟨w.drop (ck.drop j).length,eL e (eL bE (eL (min_eq_left q) (eL (List.take_append_drop ..) rfl)))⟩
   rw [aw] at hw;refine eF (yQ (dn:=dn) (ck:=ck) (k:=j) G R h (ah _)) fun n' pz O t=>(bY (EI G hk hb y hr s g (fun c L=>hg c (mem_append_left _ L)) O.lit t) fun F b=>?_)
   have H:T=(dn++ck)++(c0++cs.flatten):=by refine eL f ?_;exact WU
   refine yB (ih n' c0 0 (dn++ck) pz (us++[ck.drop j]) (some (int ck.length)) A O (by refine eL aa ?_;rw [ay] at i;exact cC 0x11F3B8C1C905F3B8CC910 tt i) H (zero_le _) (List.append_cancel_left hw) (fun c L=>hg c (mem_append_right _ L)) D (fun e z=>by cases z;rfl)) fun m C E a a1 V Z X a5=>?_;refine oP (m+1) C E a ⟨?_,V,Z,by refine eL X (eL List.flatten_append ?_);exact eL (aw ..) (eL (aw ..) rfl),.turn F b a5⟩
   exact eL aa (eL (bw) (eL (by exact rj 0x12FC4C8C23CC40C136F2C10 tt (aq (cC 0x10F104F10 tt g)):dn.length+j+(ck.length-j+A.length)=dn.length+ck.length+0+A.length) (eR aa a1)))
theorem ZD(Z:At raw T o S)(h:T.drop o=w++rest)(hg:∀c∈w,sv k c=true)(hx:∀x r,rest=x::r->sv k x=false)(hd:22<=d):∃q,At raw T (o+w.length) q/\cG (cx P B) (bodyOf (KF P) 149) (dh P 149 (yq k) (cz 0 S) d) (.ret (.lf (tx w))) (cz 0 q):=by
 refine wY Z ?_;clear Z;intro dn ck n j bf jP C s A J y;subst C;have Df:ck.drop j++jP.flatten=w++rest:=by
  exact eR h (eL A (eL J (eL List.drop_append (eL (drop_eq_nil_of_le (aK _ _)) (eL (ba ..) (eL (nil_append ..) (eL (List.drop_append_of_le_length y) rfl)))))))
 refine yB (QC G R hT hk jP n ck j dn bf [] none w s (by have:=s.B2;exact gC 0x11F3B8C084FA0 tt this) A y Df hg hx fun _ z=>cX z) fun m q H a v D E f a5=>?_;rw [<-J] at v
 refine⟨q,v,cG.deep (bY (bS (ak.mp (iR P).2.2.2.2.2.2 k hk)) fun g L=>(bY (bS g) fun g _=>?_)) hd⟩;have a0:=pP G (CU (iQ s.lit rfl) bR bU:Sy (cx P B) (jo (sL raw n ck j dn bf++[]) []) [] []) g;have X:St.sub (jo (sL raw n ck j dn bf++[]) []) (dh P 149 (yq k) (cz 0 (cq 0)) 22)=dh P 149 (yq k) (cz 0 (sx raw n ck j dn bf)) 22:=by
  show(⟨_,cY _ (yq k),_,_⟩:St)=_;have e:=fun θ=>by have:=ub (θ:=θ) hk [];rwa [show yq k++[]=yq k from aF _,show yq k++cY θ []=yq k from aF _] at this
  refine eL (e ..) ?_;rfl
 have e1:St.sub (jo (sL raw n ck j dn bf++[]) []) (St.to (dh P 149 (yq k) (cz 0 (cq 0)) 22) (BH k) (lS (cq 0) []))=Zs P k (sx raw n ck j dn bf) []:=by
  show(⟨_,cY _ (BH k),_,_⟩:St)=_;refine eL (Bg hk) ?_;rfl
 rw [X,e1] at a0;refine eL (by kernel_rfl:bodyOf (KF P) 149=eA (bodyOf (KF P) 149) 0::.While (rP P).t (rP P).b [] (rP P).p::(bodyOf (KF P) 149).drop 2) (cG.cons a0 (cG.cons (lA.while a5) (wY v ?_)));clear v;intro O M F V U p8 C b2 b3 b4 b5;clear b3 b4 b5 e1 X a0 g a5 Df s A J y hg hx hd;subst C;have N:w.length<=big:=by
  have:=az length h;rw [bw,aa] at this;exact rj 0x10F137FC4324F024F10 tt hT (sub_le _ _) this
 have f:a.flatten=w:=f;have jn:FT (jo (sL raw F M V O U++[H,tx w]) a) ⟨.join,.str ⟨#[]⟩::(List.range a.length).map (fun i=>.sym (40+i)),.sym 9⟩:=by
  have e:((List.range a.length).map fun i=>bQ.sym (40+i)).map (bQ.sub (jo (sL raw F M V O U++[H,tx w]) a))=a.map tx:=by
   refine eL bh (ext_getElem? fun i=>(eL aH (eL aH ?_)));clear f N b2 g L m D E dn ck n j bf jP;rcases aV i a.length with h|h
   .refine eL (getElem?_range h) (eL (ao h) ?_);show some (jo _ a (40+i))=_;unfold jo;refine eL (show Nat.blt (40+i) 40=false from eq_false_iff.mpr fun z=>by have:=Nat.le_of_ble_eq_true z;exact gC 0x14F8BAC9C08BA tt this) (eL (ba ..) (eL (ao h) ?_));rfl
   .refine eL (aT (eL length_range h)) (eL (aT h) ?_);rfl
  show ew .join (.str ⟨#[]⟩::((List.range a.length).map fun i=>bQ.sym (40+i)).map _)=some (tx w);exact eL e (eR f (xu (eL f N)))
 have r:=dO G (CU (iQ b2.lit (by refine eL all_cons (eL D ?_);rfl)) (bP jn bR) bU) (ak.mp L a.length (bJ.mpr (gC 0x11F4B804F3B80 tt E)));rw [eP hk] at r;have fe:Fl.sub (jo (sL raw F M V O U++[H,tx w]) a) (.ret (.lf (bif a.length==0 then .str ⟨#[]⟩ else .sym 9)))=.ret (.lf (tx w)):=by
  clear r jn N b2 g L m D E dn ck n j bf jP h;rcases a with _|⟨_,_⟩
  .refine eR f ?_;rfl
  .rfl
 rw [fe] at r;exact r
end
end
abbrev X2(P:Params):Ls:=Zl (KF P) 817 261 7 37
noncomputable def jw:List (Str×AV):=[("self",.obj 0)]
def gT(R:Rc)(X:Ls)(O:List AO):Option (Option AV×List AO):=
 (R.gO X.t (X.sg jw O)).bind fun a=>bif a.1&&ji a.2.loc jw then
  (R.gO X.c1 (X.sg jw a.2.obj)).bind fun b=>bif !b.1&&ji b.2.loc jw then
  (R.gO X.c2 (X.sg jw b.2.obj)).bind fun c=>bif ji c.2.loc jw then
   (bif c.1 then(R.ev X.e2 (X.sg jw c.2.obj)).bind fun v=>bif ji v.2.loc jw then some (some v.1,v.2.obj) else none else some (none,c.2.obj)) else none else none else none
def gF(R:Rc)(X:Ls)(n:Nat)(O:List AO):Option (List AO):=Nat.rec (some O) (fun _ r=>r.bind fun O=>(gT R X O).bind fun p=>bif p.1.isNone then some p.2 else none) n
noncomputable def gE(at_:List Nat)(a:List AO):Ent:=⟨0,[],at_,a,0,.next,[],none⟩
def QX(at_:List Nat)(O a:List AO):Bool:=let e:=gE at_ a
 ((at_.length==a.length)&&at_.zipIdx.all fun p=>gV at_ p.1==some p.2)&&e.Sk O
def TX(R:Rc)(X:Ls)(n:Nat)(O:List AO)(at_:List Nat)(a:List AO):Bool:=dg (gF R X n O) (fun b=>QX at_ b a) false
def kX(st:Option Addr)(O:List AO):List AO:=match st with
 |none=>O
 |some a=>match O with
  |[]=>[]
  |o::r=>(match o with |.inst c as=>.inst c (put "state" (.cv a (.obj 0)) as)|o=>o)::r
def isAt(O:List AO)(j:Nat)(t:AO):Bool:=dg (O[j]?) (fun o=>o.yL t) false
noncomputable def HX:List Str:=["stream","parser","escapeFlag","lastFourChars","state","escape","currentToken","tokenQueue"]
noncomputable def mD:List (Str×AV)->List Str->Bool
 |[],ns=>ns.isEmpty
 |p::r,ns=>match ns with
  |[]=>false
  |n::ns=>(p.1==n)&&mD r ns
def ZE(O:List AO):Bool:=match O with
 |[]=>false
 |o::_=>match o with
  |.inst c as=>(c==755)&&(mD as HX||mD as (HX++(["temporaryBuffer"]:List Str)))
  |_=>false
noncomputable def ZJ(b:Option Nat)(j:Nat):Bool:=match b with
 |none=>true
 |some a=>a==j
def Ud(R:Rc)(X:Ls)(n:Nat)(O:List AO)(t:AO)(a:Option Nat)(st:Option Addr)(at_:List Nat)(b:List AO):Bool:=dg (gF R X n O) (fun d=>dg (gT R X d) (fun p=>dg (p.1.bind fQ) (fun j=>isAt p.2 j t&&(ZJ a j&&ZE p.2)) false&&(dg (R.gO X.c2 (X.sg jw (kX st p.2))) (fun c=>(!c.1&&ji c.2.loc jw)&&rE c.2.obj (kX st p.2)) false&&QX at_ (kX st p.2) b)) false) false
def Yr(R:Rc)(X:Ls)(O:List AO)(b:List AO):Bool:=dg (R.gO X.t (X.sg jw O)) (fun a=>(!a.1&&ji a.2.loc jw)&&rE a.2.obj b) false
noncomputable def t6(a:Option bQ):List (Str×AV):=match a with
 |none=>[]
 |some b=>[("temporaryBuffer",.lf b)]
def Th(st:Addr)(cur:AV)(a:Option bQ):AO:=.inst 755 (([("stream",.obj 1),("parser",.lf .none),("escapeFlag",.lf (.bool false)),("lastFourChars",.obj 5),("state",.cv st (.obj 0)),("escape",.lf (.bool false)),("currentToken",cur),("tokenQueue",.obj 6)]:List (Str×AV))++t6 a)
noncomputable def gD(nm:bQ)(i:Nat):AO:=.dict [("type",.lf (.int 3)),("name",.lf nm),("data",.obj i),("selfClosing",.lf (.bool false)),("selfClosingAcknowledged",.lf (.bool false))]
def qF(nm:bQ):AO:=gD nm 8
noncomputable def gp(nm:bQ)(i:Nat):AO:=.dict [("type",.lf (.int 4)),("name",.lf nm),("data",.obj i),("selfClosing",.lf (.bool false))]
def om(nm:bQ):AO:=gp nm 8
inductive iW where
 |no
 |st (nm:bQ)
 |sd (nm:bQ)
 |en (nm:bQ)
noncomputable def iW.av(c:iW):AV:=match c with
 |.no=>.lf .none
 |_=>.obj 7
def iW.os(c:iW):List AO:=match c with
 |.no=>[]
 |.st nm=>[qF nm,.list []]
 |.sd nm=>[qF nm,.dict []]
 |.en nm=>[om nm,.list []]
def cO(st:Addr)(c:iW)(a:Option bQ)(g:Sx):List AO:=Th st c.av a::cz 1 g++[.list [],.list []]++c.os
noncomputable def iX:List Nat:=[0,1,2,3,4,5,6]
noncomputable def eZ(a:Int)(x:bQ):AO:=.dict [("type",.lf (.int a)),("data",.lf x)]
def iE(b d:Nat)(l:List bQ)(i:Nat):List Ent:=l.zipIdx.map fun p=>n5 b (cq (i+p.2)) (cq (i+p.2+1)) p.1 d
noncomputable def oh:bQ:=.sym 16
noncomputable def oy:bQ:=.sym 8
noncomputable def PM(x y:bQ):Ent:=⟨35,[("text",.lf x)],[],[],34,.ret (.lf y),[],none⟩
noncomputable def n7(x:bQ):Ent:=⟨213,[("prefix",.lf x),("self",.top (.ref 229))],[],[],34,.ret (.lf (.bool false)),[],none⟩
noncomputable def gS:List Nat:=(List.range 26).map (· +97)++(List.range 26).map (· +65)
def Yf(c:bQ)(a b:Bool)(l:List Nat):List Fact:=⟨.mem,c::gS.map ch,.bool a⟩::⟨.mem,c::jY.map ch,.bool b⟩::Ik c l
def YT(c:iW)(n:Nat):List Nat:=match c with
 |.no=>iX
 |_=>iX++[n,n+1]
def iW.old(c:iW):List AO:=match c with
 |.no=>[]
 |.st _=>[]
 |.sd nm=>[gD nm 10,.dict []]
 |.en nm=>[gp nm 10,.list []]
def rR(c:iW):List Nat:=match c with
 |.no=>iX++[7,8]
 |_=>iX++[9,10,7,8]
def stays(c:iW):List Nat:=YT c 7
abbrev Y(P:Params)(Φ:List Fact)(Es:List Ent)(n:Nat)(O:List AO)(t:AO)(st:Option Addr)(at_:List Nat)(b:List AO)(a:Option Nat:=none):Bool:=Ud (R3 P Φ Es) (X2 P) n O t a st at_ b
abbrev Q(P:Params)(Φ:List Fact)(Es:List Ent)(n:Nat)(O:List AO)(at_:List Nat)(a:List AO):Bool:=TX (R3 P Φ Es) (X2 P) n O at_ a
def z8(l:List Nat):List Fact:=Ik (.sym 40) l++[⟨.add,[.sym 40,.sym 24],.sym 32⟩]
def Tj(P:Params)(st:Addr)(c:iW)(a:Option bQ)(cs:AV)(l:List Nat):Bool:=Y P (z8 l) (iE 1 35 [.sym 40] 0++[SX 1 (cq 1) (cq 2) cs false (.sym 24) 35]) 0 (cO st c a (cq 0)) (eZ 1 (.sym 32)) none (stays c) (cO st c a (cq 2))
def VE(P:Params)(st:Addr)(c:iW)(a:Option bQ)(x:Nat):Bool:=Y P [⟨.add,[ch x,.sym 24],.sym 32⟩] (iE 1 35 [ch x] 0++[SX 1 (cq 1) (cq 2) (.top (.ref 15)) true (.sym 24) 35]) 0 (cO st c a (cq 0)) (eZ 2 (.sym 32)) none (stays c) (cO st c a (cq 2))
def i6(P:Params)(st:Addr)(c:iW)(a:Option bQ)(x:Nat):Bool:=Y P [] (iE 1 35 [ch 38] 0++iE 1 34 [ch x] 1++[zG 1 (cq 2) (cq 3) (ch x) 34]) 1 (cO st c a (cq 0)) (eZ 1 (ch 38)) none (stays c) (cO st c a (cq 3))
def B4(P:Params)(st:Addr)(c:iW)(a:Option bQ):Bool:=Y P [] (iE 1 35 [ch 38] 0++iE 1 34 [.none] 1++[zG 1 (cq 2) (cq 2) .none 34]) 1 (cO st c a (cq 0)) (eZ 1 (ch 38)) none (stays c) (cO st c a (cq 2))
def Xi(P:Params)(st:Addr)(c:iW)(a:Option bQ)(l:List Nat)(r:Nat):Bool:=
 let k:=l.length
 Y P [⟨.join,.str ⟨#[]⟩::(l.map ch++[.sym 40]),.sym 48⟩,⟨.FV,[.sym 40],.bool false⟩] (iE 1 35 [ch 38] 0++iE 1 34 (l.map ch++[.sym 40]) 1++[zG 1 (cq (k+2)) (cq (k+3)) (.sym 40) 34,n7 (.sym 48)]) 1 (cO st c a (cq 0)) (eZ 1 (ch r)) none (stays c) (cO st c a (cq (k+3)))
def Ye(P:Params)(st:Addr)(c:iW)(a:Option bQ)(l:List Nat)(r:Nat):Bool:=
 let k:=l.length
 Y P [] (iE 1 35 [ch 38] 0++iE 1 34 (l.map ch++[.none]) 1++[zG 1 (cq (k+2)) (cq (k+2)) .none 34]) 1 (cO st c a (cq 0)) (eZ 1 (ch r)) none (stays c) (cO st c a (cq (k+2)))
def Xq(P:Params)(st:Addr)(c:iW)(a:Option bQ)(l m:List Nat)(r:Nat):Bool:=
 let k:=l.length
 let x:=ch ((m.head?).getD 0)
 Y P [] (iE 1 35 [ch 38] 0++iE 1 34 (l.map ch++[x]) 1++[zG 1 (cq (k+2)) (cq (k+3)) x 34]++iE 1 33 (m.map ch) (k+3)) 1 (cO st c a (cq 0)) (eZ 1 (ch r)) none (stays c) (cO st c a (cq (k+3+m.length)))
noncomputable def vA:List Nat:=[97,109,112,59]
noncomputable def wL:List Nat:=[108,116,59]
def MA(P:Params)(st:Addr)(c:iW)(a:Option bQ):Bool:=([32,10,60,38].all fun x=>i6 P st c a x)&&(Xi P st c a vA 38&&(Xi P st c a wL 60&&(Xq P st c a [35] [51,56,59] 38&&Xq P st c a [35,120] [51,67,59] 60)))
def Qd(P:Params)(st:Addr)(c:iW)(a:Option bQ):Bool:=B4 P st c a&&(Ye P st c a vA 38&&Ye P st c a wL 60)
def PI(c:bQ):List Fact:=Yf c true false [33,47,62,0]
def WV(P:Params)(c:iW)(a:Option bQ):Bool:=let O:=cO 297 c a (cq 0)
 Q P (PI (.sym 40)) (iE 1 35 [ch 60,.sym 40] 0) 2 O (rR c) (cO 360 (.st (.sym 40)) a (cq 2)++c.old)
def XY(P:Params)(a:Option bQ):Bool:=Q P (PI (.sym 40)++[⟨.add,[oh,.sym 40],.sym 48⟩]) (iE 1 35 [.sym 40] 0) 1 (cO 360 (.st oh) a (cq 0)) (iX++[7,8]) (cO 360 (.st (.sym 48)) a (cq 1))
def XK(P:Params)(a:Option bQ)(x:Nat):Bool:=Q P [] (iE 1 35 [ch x] 0) 1 (cO 360 (.st oh) a (cq 0)) (iX++[7,8]) (cO 528 (.st oh) a (cq 1))
def XJ(P:Params)(at_:Addr)(a:Option bQ)(st:Addr):Bool:=Y P [] (iE 1 35 [ch 62] 0++[PM oh (.sym 48)]) 0 (cO at_ (.st oh) a (cq 0)) (gD (.sym 48) 9) (some st) (iX++[7,9]) (cO st (.sd (.sym 48)) a (cq 1)) (some 7)
def Zk(P:Params):Bool:=Y P [] (iE 1 35 [ch 62] 0++[PM oh (.sym 48)]) 0 (cO 528 (.en oh) (some oy) (cq 0)) (om (.sym 48)) none (iX++[7,8]) (cO 297 (.en (.sym 48)) (some oy) (cq 1)) (some 7)
structure Raw where
 st:Addr
 lt:Addr
 F8:Addr
 xq:Addr
 l:List Nat
 cs:AV
def ZL:Raw:=⟨311,367,374,381,uC++jY,nr uC⟩
def u7:Raw:=⟨325,388,395,402,vE,nr vE⟩
def s9:Raw:=⟨332,409,416,423,vE,nr vE⟩
def iC:iW:=.sd oh
noncomputable def ltN(r:Raw):List Nat:=bif r.st==332 then[47,33] else[47]
def ltB(P:Params)(r:Raw)(a:Option bQ):Bool:=Y P (Ik (.sym 40) (ltN r)) (iE 1 35 [ch 60,.sym 40] 0++[zG 1 (cq 2) (cq 3) (.sym 40) 35]) 1 (cO r.st iC a (cq 0)) (eZ 1 (ch 60)) none (stays iC) (cO r.st iC a (cq 3))
def Zd(P:Params)(r:Raw)(a:Option bQ):Bool:=Y P (⟨.mem,.sym 40::gS.map ch,.bool false⟩::Ik (.sym 40) []) (iE 1 35 [ch 60,ch 47,.sym 40] 0++[zG 1 (cq 3) (cq 4) (.sym 40) 35]) 2 (cO r.st iC a (cq 0)) (eZ 1 (.str ⟨#[60,47]⟩)) none (stays iC) (cO r.st iC (some (.str ⟨#[]⟩)) (cq 4))
def XP(P:Params)(r:Raw)(a:Option bQ):Bool:=let O:=cO r.st iC a (cq 0)
 Q P (PI (.sym 40)++[⟨.add,[.str ⟨#[]⟩,.sym 40],.sym 40⟩]) (iE 1 35 [ch 60,ch 47,.sym 40] 0) 3 O (stays iC) (cO r.xq iC (some (.sym 40)) (cq 3))
def Np(b:Bool):List Fact:=[⟨.truth,[oh],.bool true⟩,⟨.lower,[oh],.sym 48⟩,⟨.lower,[oy],.sym 56⟩,⟨.eq,[.sym 48,.sym 56],.bool b⟩,⟨.len,[oh],.sym 72⟩,⟨.len,[oy],.sym 80⟩]
def Yu(P:Params)(r:Raw)(b:Bool):Bool:=Q P (Np b++PI (.sym 40)++[⟨.add,[oy,.sym 40],.sym 64⟩]) (iE 1 35 [.sym 40] 0) 1 (cO r.xq iC (some oy) (cq 0)) (stays iC) (cO r.xq iC (some (.sym 64)) (cq 1))
def Vw(P:Params)(r:Raw)(b:Bool)(x:bQ):Bool:=Y P (Np b++Yf (.sym 40) false false [47,62]++[⟨.add,[.str ⟨#[60,47]⟩,oy],.sym 64⟩]) (iE 1 35 [x] 0++[zG 1 (cq 1) (cq 2) x 35]) 0 (cO r.xq iC (some oy) (cq 0)) (eZ 1 (.sym 64)) none (stays iC) (cO r.st iC (some oy) (cq 2))
def Zu(P:Params)(r:Raw):Bool:=Y P (Np true) (iE 1 35 [ch 62] 0++[PM oy (.sym 64)]) 0 (cO r.xq iC (some oy) (cq 0)) (gp (.sym 64) 10) none (rR iC) (cO 297 (.en (.sym 64)) (some oy) (cq 1)++iC.old) (some 9)
def Yc(P:Params)(r:Raw)(x:Nat):Bool:=Q P (Np true) (iE 1 35 [ch x] 0) 1 (cO r.xq iC (some oy) (cq 0)) (rR iC) (cO 528 (.en oy) (some oy) (cq 1)++iC.old)
def Ru(P:Params)(a:Option bQ):Bool:=Y P [] (iE 1 35 [ch 60,ch 33] 0) 1 (cO 332 iC a (cq 0)) (eZ 1 (.str ⟨#[60,33]⟩)) none (stays iC) (cO 430 iC a (cq 2))
def RT(P:Params)(a:Option bQ):Bool:=Y P [] (iE 1 35 [ch 45] 0) 0 (cO 430 iC a (cq 0)) (eZ 1 (ch 45)) none (stays iC) (cO 437 iC a (cq 1))
def Ec(P:Params)(st:Addr)(a:Option bQ):Bool:=Q P (Ik (.sym 40) [45]) (iE 1 35 [.sym 40] 0++[zG 1 (cq 1) (cq 2) (.sym 40) 35]) 1 (cO st iC a (cq 0)) (stays iC) (cO 332 iC a (cq 2))
def d8(P:Params)(a:Option bQ):Bool:=Y P (Ik (.sym 40) [0]++[⟨.add,[.sym 40,.sym 24],.sym 32⟩]) (iE 1 35 [.sym 40] 0++[SX 1 (cq 1) (cq 2) (.lf (ch 0)) false (.sym 24) 35]) 0 (cO 339 iC a (cq 0)) (eZ 1 (.sym 32)) none (stays iC) (cO 339 iC a (cq 2))
def WO(P:Params)(st:Addr)(c:iW)(a:Option bQ):Bool:=Yr (R3 P [] (iE 1 35 [.none] 0)) (X2 P) (cO st c a (cq 0)) (cO st c a (cq 1))
def TS:List (Option bQ):=[none,some oy]
def dF:List (iW×Option bQ):=[(.no,none),(.en oh,some oy)]
def q8(P:Params):Bool:=dF.all fun f=>(Tj P 297 f.1 f.2 (nr uC) (uC++jY)&&[9,10,12,32].all fun x=>VE P 297 f.1 f.2 x)&&(MA P 297 f.1 f.2&&(Qd P 297 f.1 f.2&&(WO P 297 f.1 f.2&&WV P f.1 f.2)))
def x3(P:Params):Bool:=(TS.all fun b=>XY P b&&(([10,32].all fun x=>XK P b x)&&[360,528].all fun a=>[311,325,332,339].all fun st=>XJ P a b st))&&Zk P
def Iu(P:Params)(r:Raw):Bool:=(TS.all fun a=>Tj P r.st iC a r.cs r.l&&(ltB P r a&&(Zd P r a&&XP P r a))) &&
 (([true,false].all fun b=>Yu P r b&&Vw P r b (.sym 40))&&(([10,32,47,62].all fun x=>Vw P r false (ch x))&&(Zu P r&&[10,32].all fun x=>Yc P r x)))
def D8(P:Params):Bool:=TS.all fun a=>([9,10,12,32].all fun x=>VE P 311 iC a x)&&MA P 311 iC a
def XM(P:Params):Bool:=TS.all fun a=>Ru P a&&(RT P a&&(Ec P 430 a&&Ec P 437 a))
def y3(P:Params):Bool:=TS.all fun a=>d8 P a&&WO P 339 iC a
def D6(P:Params):Bool:=AL.all fun c=>[vA,wL].all fun l=>kS (R3 P [] []) (bodyOf (KF P) 213) (dh P 213 [("prefix",.lf (.str ⟨(l++[c]).toArray⟩)),("self",.top (.ref 229))] [] 32) (.ret (.lf (.bool false))) []
theorem RZ(P:Params):q8 P=true:=by kernel_rfl
theorem OU(P:Params):x3 P=true:=by kernel_rfl
theorem Hd(P:Params):(Iu P ZL&&D8 P)=true:=by kernel_rfl
theorem HO(P:Params):Iu P u7=true:=by kernel_rfl
theorem qr(P:Params):(Iu P s9&&(XM P&&(y3 P&&D6 P)))=true:=by kernel_rfl
noncomputable abbrev iL(m:Nat):Nat->Nat:=fun i=>m+i
abbrev eI(m:Nat)(O:List AO):List AO:=O.map (AO.ed (iL m))
section
variable{C:Ctx}{F O O' O1:List AO}{sc:Scope}{gl nV:List (Str×AV)}{d m:Nat}{x:Expr}{b:Bool}{a:AV}{Fm:Fm}{Ω:Om}
theorem wy:(F++eI m O)[F.length+i]?=(O[i]?).map (AO.ed (iL m)):=by
 exact eL (aI (aK _ _)) (eL (ba ..) (eL aH rfl))
theorem sY:Sub (iL F.length) ⟨sc,cE (iL F.length) gl,F++eI F.length O,d⟩ ⟨sc,gl,O,d⟩:=by
 refine⟨rfl,fun i o e=>?_,fun i j _ _ h=>Nat.add_left_cancel h,fun i h=>?_⟩
 .refine eL wy (eL (e) ?_);rfl
 .have h:=h;rw [aa,aj] at h;exact dN 0x11F215FC20C10 tt h
theorem RB:Out (iL F.length) O.length ⟨sc,cE (iL F.length) gl,F++eI F.length O,d⟩ ⟨sc,nV,O',d⟩ ⟨sc,cE (iL F.length) nV,F++eI F.length O',d⟩:=by
 have c:(F++eI F.length O).length=F.length+O.length:=by exact eL aa (eL (aj ..) rfl)
 refine⟨rfl,(rj 0x12FC23C407FC4136FC210 tt (by exact eL aa (eL (aj ..) rfl):(F++eI F.length O').length=F.length+O'.length) c),fun i o e=>?_,fun j f no=>?_,fun i hi=>(rj 0x12FC03C247FC1437F2C10 tt (aq (cC 0x10F104F10 tt hi)) c)⟩
 .refine eL wy (eL (e:O'[i]?=some o) ?_);rfl
 .have lt:j<F.length:=by
   rcases aV j F.length with q|q
   .exact q
   .exact absurd (by exact dN 0x12FC0127F2C10 tt (aq (cC 0x10F104F10 tt q)):j=iL F.length (j-F.length)) (no _ (by exact rj 0x11F246F3C145F036FC210 tt c (f:j<(F++eI F.length O).length) (aq (cC 0x10F104F10 tt q))))
  exact eL (aJ lt) (eL (aJ lt) rfl)
theorem cW.sh{Q:Rl β α}(H:Hr C Fm Ω ⟨sc,cE (iL F.length) gl,F++eI F.length O,d⟩)(p:cW C Fm (Ω.small (iL F.length) O.length) ⟨sc,nV,O',d⟩ Q y z s')(j:∀f c,(∀x v,VR C f x v->VR C c (x.ed (iL F.length)) v)->Q f y z->k c n z):
  cW C Fm Ω ⟨sc,cE (iL F.length) nV,F++eI F.length O',d⟩ k n z s':=by
 refine dW p ?_;clear p;intro f w H1 q l;subst l;exact PF (H.frame (s':=⟨sc,cE (iL F.length) nV,F++eI F.length O',d⟩) sY RB rfl rfl w H1.rel) fun c h i e _ g=>⟨c,h,i,j f c g q,e⟩
theorem fx.sh(h:fx C x ⟨sc,gl,O,d⟩ b ⟨sc,nV,O',d⟩):fx C x ⟨sc,cE (iL F.length) gl,F++eI F.length O,d⟩ b ⟨sc,cE (iL F.length) nV,F++eI F.length O',d⟩:=fun Fm Ω H=>by
 exact wp_mono (h Fm (Ω.small (iL F.length) O.length) (H.shrink sY rfl rfl)) fun _ _ p=>cW.sh H p fun _ _ _ q=>q
theorem iD.sh(h:iD C x ⟨sc,gl,O,d⟩ a ⟨sc,nV,O',d⟩):iD C x ⟨sc,cE (iL F.length) gl,F++eI F.length O,d⟩ (a.ed (iL F.length)) ⟨sc,cE (iL F.length) nV,F++eI F.length O',d⟩:=fun Fm Ω H=>by
 exact wp_mono (h Fm (Ω.small (iL F.length) O.length) (H.shrink sY rfl rfl)) fun _ _ p=>cW.sh H p fun _ _ g q=>g _ _ q
end
def LB(C:Ctx)(X:Ls)(Fin:List (Str×AV)->List AO->Prop)(k:Nat)(kn:Bool)(loc:List (Str×AV))(F O:List AO):Prop:=LH C X Fin k kn loc (cE (iL F.length) jw) (F++eI F.length O)
section
variable{C:Ctx}{X:Ls}{θ:Nat->bQ}{Φ:List Fact}{Es:List Ent}{N k n:Nat}{Fin:List (Str×AV)->List AO->Prop}{kn:Bool}{loc:List (Str×AV)}{F O O1:List AO}{y:Option AV}
abbrev ip(θ:Nat->bQ)(O:List AO):List AO:=O.map (AO.sub θ)
structure Yo(C:Ctx)(X:Ls)(O:List AO)(y:Option AV)(O1:List AO):Prop where
 ex:∃Oa Ob,fx C X.t (X.sg jw O) true (X.sg jw Oa)/\fx C X.c1 (X.sg jw Oa) false (X.sg jw Ob)/\
  match y with
  |none=>fx C X.c2 (X.sg jw Ob) false (X.sg jw O1)
  |some v=>∃Oc,fx C X.c2 (X.sg jw Ob) true (X.sg jw Oc)/\iD C X.e2 (X.sg jw Oc) v (X.sg jw O1)
theorem qi(G:Good C)(S:Sy C θ Φ Es){x:Expr}{r:Bool×St}(e:(fk C.K Φ Es N).gO x (X.sg jw O)=some r)(h:ji r.2.loc jw=true):fx C x (X.sg jw (ip θ O)) r.1 (X.sg jw (ip θ r.2.obj)):=by
 have l:=iu _ _ h;clear h;obtain⟨c,sc,lo,o,d⟩:=r;have l:lo=jw:=l;subst l;exact((tw G S e).fix)
theorem NF(G:Good C)(S:Sy C θ Φ Es)(e:gT (fk C.K Φ Es N) X O=some (y,O1)):Yo C X (ip θ O) (y.map (AV.sub θ)) (ip θ O1):=by
 refine bW (aM.mp e) fun a e1 e=>(bY (jU e) fun f e=>(bW (aM.mp e) fun b e2 e=>(bY (jU e) fun hb e=>(bW (aM.mp e) fun c p e=>(bY (jU e) fun m e=>?_)))))
 have f:=ab.mp f;have hb:=ab.mp hb;have h:=qi G S p m;refine⟨_,_,(eR f.1 (qi G S e1 f.2)),(eR ((bM _).mp hb.1) (qi G S e2 hb.2)),?_⟩;clear hb f m p e2 e1;rcases q:c.1 with _|_
 .rw [q] at e h;clear hb f G S;(injection e with g;injection g with g i;subst g;subst i);exact h
 .rw [q] at e h;refine bW (aM.mp e) fun v r e=>(bY (jU e) fun j e=>?_)
  clear hb f;(injection e with g;injection g with g i;subst g;subst i);refine⟨_,h,?_⟩;have l:=iu _ _ j;clear j e h;obtain⟨w,sc,lo,o,d⟩:=v;have l:lo=jw:=l;clear e;subst l;exact((tX G S r).fix)
theorem Yo.silent(h:Yo C X O none O1)(d:LB C X Fin k kn loc F O1):LB C X Fin k kn loc F O:=by
 exact cw (h.ex) fun e f a b c=>(.silent (fx.sh a) (fx.sh b) (fx.sh c) d)
theorem Ow(G:Good C)(S:Sy C θ Φ Es):∀ {n:Nat} {O1},gF (fk C.K Φ Es N) X n O=some O1->LB C X Fin k kn loc F (ip θ O1)->LB C X Fin k kn loc F (ip θ O):=by
 intro n;induction n with
 |zero=>
  intro O1 e h;clear G S;(injection e with a;subst a);exact h
 |succ n g=>
  intro O1 e h;refine bW (aM.mp e) fun j e1 e2=>(bW (aM.mp e2) fun p f b=>(bY (jU b) fun c d=>?_))
  clear b e2 e;obtain⟨y,i⟩:=p
  (injection d with a;subst a)
  obtain rfl:=isNone_iff_eq_none.mp c;exact g e1 ((NF G S f).silent h)
end
section
set_option genCtorIdx true
section
variable{ι κ:Nat->Nat}
mutual
theorem AV.jB:∀x:AV,(x.ed ι).ed κ=x.ed (κ∘ι)
 |.lf x=>rfl
 |.tup xs=>az AV.tup (hW xs)
 |.cv f x=>az (AV.cv f) (AV.jB x)
 |.obj i=>rfl
 |.top v=>rfl
theorem hW:∀xs:List AV,dE κ (dE ι xs)=dE (κ∘ι) xs
 |[]=>rfl
 |x::xs=>by show(x.ed ι).ed κ::_=_;refine eL (AV.jB x) (eL (hW xs) ?_);rfl
end
mutual
theorem AV.kA(h:∀i,i<k->ι i=κ i):∀x:AV,x.gk k=true->x.ed ι=x.ed κ
 |.lf x,_=>rfl
 |.tup xs,c=>az AV.tup (iZ h xs c)
 |.cv f x,c=>az (AV.cv f) (AV.kA h x c)
 |.obj i,c=>az AV.obj (h i (ax c))
 |.top v,_=>rfl
theorem iZ{k:Nat}(h:∀i,i<k->ι i=κ i):∀xs:List AV,gY k xs=true->dE ι xs=dE κ xs
 |[],_=>rfl
 |x::xs,c=>by
  have c:=ab.mp c;show x.ed ι::dE ι xs=x.ed κ::dE κ xs;exact eL (AV.kA h x c.1) (eL (iZ h xs c.2) rfl)
end
theorem sF(l):cE κ (cE ι l)=cE (κ∘ι) l:=by
 unfold cE;exact eL bh (bG fun p _=>az (p.1,·) (AV.jB p.2))
theorem qV{k:Nat}(h:∀i,i<k->ι i=κ i)(l)(c:mO k l=true):cE ι l=cE κ l:=
 bG fun p hp=>az (p.1,·) (AV.kA h p.2 (ak.mp c p hp))
theorem AO.jB(o:AO):(o.ed ι).ed κ=o.ed (κ∘ι):=by
 rcases o with xs|es|⟨c,as⟩|⟨o,xs⟩|⟨xs,k,zs⟩
 .exact az AO.list (hW xs)
 .exact az AO.dict (sF es)
 .exact az (AO.inst c) (sF as)
 .exact az (AO.dy o) (hW xs)
 .show AO.fK _ _ _=AO.fK _ _ _;exact eL (hW ..) (eL (hW ..) rfl)
theorem AO.kA{k:Nat}(h:∀i,i<k->ι i=κ i)(o:AO)(c:o.gk k=true):o.ed ι=o.ed κ:=by
 rcases o with xs|es|⟨a,as⟩|⟨o,xs⟩|⟨xs,k,zs⟩
 .exact az AO.list (iZ h xs c)
 .exact az AO.dict (qV h es c)
 .exact az (AO.inst a) (qV h as c)
 .exact az (AO.dy o) (iZ h xs c)
 .have c:=ab.mp c;show AO.fK _ _ _=AO.fK _ _ _;exact eL (iZ h xs c.1) (eL (iZ h zs c.2) rfl)
mutual
theorem AV.nc:∀x:AV,x.ed id=x
 |.lf x=>rfl
 |.tup xs=>az AV.tup (kK xs)
 |.cv f x=>az (AV.cv f) (AV.nc x)
 |.obj i=>rfl
 |.top v=>rfl
theorem kK:∀xs:List AV,dE id xs=xs
 |[]=>rfl
 |x::xs=>by show x.ed id::dE id xs=_;exact eL (AV.nc x) (eL (kK xs) rfl)
end
theorem mC(l:List (Str×AV)):cE id l=l:=(bG fun p _=>az (p.1,·) (AV.nc p.2)).trans (map_id l)
theorem AO.nc(o:AO):o.ed id=o:=by
 rcases o with xs|es|⟨c,as⟩|⟨o,xs⟩|⟨xs,k,zs⟩
 .exact az AO.list (kK xs)
 .exact az AO.dict (mC es)
 .exact az (AO.inst c) (mC as)
 .exact az (AO.dy o) (kK xs)
 .show AO.fK _ _ _=AO.fK _ _ _;exact eL (kK ..) (eL (kK ..) rfl)
theorem AO.mE(h:∀i,i<k->ι i=i)(o:AO)(c:o.gk k=true):o.ed ι=o:=(AO.kA h o c).trans (AO.nc o)
theorem se(h:∀i,i<k->ι i=i)(l)(c:mO k l=true):cE ι l=l:=(qV h l c).trans (mC l)
end
inductive Gi where
 |tx (t:List Nat)
 |fz (i:Nat)
 |cu (c:Nat)
def Gi.av(g m:Nat)(x:Gi):AV:=match x with
 |.tx t=>.lf (Mine.tx t)
 |.fz i=>.obj (g+1+2*i)
 |.cu c=>.obj (m+c)
structure Tg where
 st:Bool
 nm:List Nat
def rl(t:Tg)(i:Nat):List AO:=bif t.st then[gD (tx t.nm) i,.dict []] else[gp (tx t.nm) i,.list []]
noncomputable def tJ(p:Nat):List Tg->List AO
 |[]=>[]
 |t::r=>rl t (p+1)++tJ (p+2) r
noncomputable def bZ(D:List AO)(tg:List Tg):Nat:=D.length+1+2*tg.length
def cV(D:List AO)(bT:List Gi)(tg:List Tg):List AO:=D++(.list (bT.map (Gi.av D.length (bZ D tg)))::tJ (D.length+1) tg)
noncomputable def fS(pre:List (Str×AV))(g m:Nat):List (Str×AV):=pre++([("got",.obj g),("reader",.obj m)]:List (Str×AV))
section
variable{C:Ctx}{X:Ls}{k c j p:Nat}{Fin:List (Str×AV)->List AO->Prop}{kn:Bool}{pre loc:List (Str×AV)}{D O O' O1:List AO}{bT fb:List Gi}{tg:List Tg}{t:Tg}{ι:Nat->Nat}
theorem AE:(rl t j).length=2:=by unfold rl;rcases t.st with⟨⟩<;>rfl
theorem kM:∀ {tg} {p},(tJ p tg).length=2*tg.length
 |[],_=>rfl
 |t::r,p=>by
  exact eL aa (eL AE (eL (kM) (eL ay (gC 0x12FDC90ACD0AA tt))))
theorem cB:(cV D bT tg).length=bZ D tg:=by
 exact eL aa (eL ay (eL kM (cC 0x12FCD1AC90CC9D1A0 tt)))
theorem zJ:∀ {tg} {p},tJ p (tg++[t])=tJ p tg++rl t (p+2*tg.length+1):=by
 intro tg;induction tg with
 |nil=>
  intro p;show rl t (p+1)++[]=[]++_;refine eL (aF ..) ?_;rfl
 |cons u r a=>
  intro p;show rl u (p+1)++tJ (p+2) (r++[t])=rl u (p+1)++tJ (p+2) r++_;exact eL a (eL (aw ..) (eL ay (eL (show p+2+2*r.length+1=p+2*(r.length+1)+1 by exact cC 0x12FC9CDC91A0C9CD1ACA0 tt) rfl)))
theorem Kb(h:j<k):∀o∈rl t j,o.gk k=true:=fun o ho=>by
 unfold rl at ho;have d:=bo h;rcases a:t.st with _|_
 .rw [a] at ho;rcases aU.mp ho with rfl|ho
  .show (true&&(true&&(decide (j<k)&&(true&&true))))=true;refine eL d ?_;rfl
  .obtain rfl:=aB.mp ho;rfl
 .rw [a] at ho;rcases aU.mp ho with rfl|ho
  .show (true&&(true&&(decide (j<k)&&(true&&(true&&true)))))=true;refine eL d ?_;rfl
  .obtain rfl:=aB.mp ho;rfl
theorem zT:∀ {tg} {p},p+2*tg.length<=k->∀o∈tJ p tg,o.gk k=true:=by
 intro tg;induction tg with
 |nil=>
  intro _ _ _ h;exact iS h
 |cons t r b=>
  intro p a o h;rw [ay] at a;rcases bg.mp (h:o∈rl t (p+1)++tJ (p+2) r) with h|h
  .exact Kb (by exact dN 0x11F2C904F2CDC91A0 tt a) o h
  .exact b (by exact dN 0x10F2CD1ACA04F2CDC91A0 tt a) o h
def Gi.ok(q w:Nat)(x:Gi):Prop:=match x with
 |.tx _=>True
 |.fz i=>i<q
 |.cu c=>c<w
theorem Hs{b:List Gi}(hD:∀o∈D,o.gk D.length=true)(a:∀i,i<bZ D tg->ι i=i)(hi:b.map (Gi.av D.length (bZ D tg))=dE ι (bT.map (Gi.av D.length (bZ D tg)))){j:Nat}{o:AO}(e:(cV D bT tg)[j]?=some o):(cV D b tg)[j]?=some (o.ed ι):=by
 have hg:∀i,i<D.length->ι i=i:=fun i h=>a i (by exact dN 0x11FCD2AC9105F10 tt h)
 unfold cV at e ⊢;rcases aV j D.length with q|q
 .rw [aJ q] at e ⊢;exact eL e (eL (AO.mE hg o (hD o (aR e))) rfl)
 .rw [aI q] at e ⊢;rcases h:j-D.length with _|i
  .rw [h] at e
   (injection e with d;subst d)
   exact eL hi rfl
  .rw [h] at e;have e:(tJ (D.length+1) tg)[i]?=some o:=e;exact eL e (eL (AO.mE a o (zT (by exact cC 0x10FCD1AC90CD1AC90 tt) o (aR e))) rfl)
end
end
noncomputable def Gi.re(at_:List Nat)(x:Gi):Gi:=match x with
 |.cu c=>.cu ((at_[c]?).getD c)
 |x=>x
noncomputable def MS(i:Nat):List (Str×AV):=[("self",.obj i)]
theorem vp:cE a (fS pre g m)=fS (cE a pre) (a g) (a m):=by
 unfold fS cE;refine eL aO ?_;rfl
noncomputable def jJ(m:Nat)(κ:Nat->Nat)(j:Nat):Nat:=if j<m then j else m+κ (j-m)
section
variable{X:Ls}{Fin:List (Str×AV)->List AO->Prop}
theorem iV(h:j<m):jJ m κ j=j:=if_pos h
theorem iT:jJ m κ (m+j)=m+κ j:=by unfold jJ;exact eL (if_neg (by exact fun a=>cC 0x15F0C10 tt a)) (eL (ba ..) rfl)
theorem Rk:jJ m κ∘iL m=iL m∘κ:=funext fun _=>iT
theorem LK(t:F.length=m)(c:l.length=m)(S:Sub κ (X.sg [] k) (X.sg [] f))(n:κ 0=0)(h:∀(j:Nat) o,l[j]?=some o->F[j]?=some (o.ed (jJ m κ))):Sub (jJ m κ) (X.sg (cE (iL m) jw) (F++eI m k)) (X.sg (cE (iL m) jw) (l++eI m f)):=by
 subst t;have r:(F++eI F.length k).length=F.length+k.length:=by exact eL aa (eL (aj ..) rfl)
 have d:(l++eI F.length f).length=F.length+f.length:=by exact eL aa (eL (aj ..) (eL c rfl))
 refine⟨?_,fun j o e=>?_,fun i j hi g z=>?_,fun j z=>?_⟩
 .show MS (F.length+0)=MS (jJ F.length κ (F.length+0));exact eL iT (eL n rfl)
 .have e:=e;show(F++eI F.length k)[jJ F.length κ j]?=_;clear d r n;rcases aV j F.length with q|q
  .exact eL (iV q) (eL (aJ q) (h j o (eR (aJ (c▸q)) e)))
  .clear h;obtain⟨i,rfl⟩:∃i,j=F.length+i:=⟨j-F.length,dN 0x12FC0127F2C10 tt (aq (cC 0x10F104F10 tt q))⟩;rw [aI (by exact dN 0x10FC2106F10 tt c),c,ba,aH] at e;refine bW (aQ.mp e) fun o' e1 s=>?_
   clear e c;subst s;refine eL iT (eL wy (eL (S.obj i o' e1) (eL (AO.jB ..) (eL Rk ?_))));show some ((o'.ed κ).ed (iL F.length))=_;exact eL (AO.jB ..) rfl
 .have hi:=hi;have g:=g;rcases aV i F.length with p|p<;>rcases aV j F.length with q|q
  .exact eR (iV q) (eR (iV p) z)
  .clear g hi d r c S n h;obtain⟨b,rfl⟩:∃b,j=F.length+b:=⟨j-F.length,dN 0x12FC0127F2C10 tt (aq (cC 0x10F104F10 tt q))⟩;rw [iV p,iT] at z;exact False.elim (dN 0x15F107FC210 tt z p)
  .clear g hi d r c S n h;obtain⟨a,rfl⟩:∃a,i=F.length+a:=⟨i-F.length,dN 0x12FC0127F2C10 tt (aq (cC 0x10F104F10 tt p))⟩;rw [iV q,iT] at z;exact False.elim (dN 0x15F026F2C10 tt z q)
  .obtain ⟨a,rfl⟩:∃a,i=F.length+a:=⟨i-F.length,dN 0x12FC0127F2C10 tt (aq (cC 0x10F104F10 tt p))⟩;obtain⟨b,rfl⟩:∃b,j=F.length+b:=⟨j-F.length,dN 0x12FC0127F2C10 tt (aq (cC 0x10F104F10 tt q))⟩;rw [iT,iT] at z;have:=S.inj a b (show a<f.length by exact kF 0x11F235F0C316FC210 tt d hi) (show b<f.length by exact kF 0x11F235F0C316FC210 tt d g) (dN 0x12F216FC20C10 tt z);exact dN 0x12FC12C026F10 tt this
 .have z:=z;show j<(l++eI F.length f).length;refine eL d ?_;rcases aV j F.length with q|q
  .exact dN 0x11FC2105F10 tt q
  .obtain ⟨i,rfl⟩:∃i,j=F.length+i:=⟨j-F.length,dN 0x12FC0127F2C10 tt (aq (cC 0x10F104F10 tt q))⟩;rw [iT,r] at z;have:=S.out i (show κ i<k.length by exact dN 0x11F215FC20C10 tt z);exact dN 0x11FC12C025F10 tt this
theorem Nz(P:mQ at_ b a ((gE at_ b).num a.length))(f:at_[0]?=some 0)(hD:∀o∈D,o.gk D.length=true)(hb:X.nb<=D.length)(hpre:mO D.length pre=true)(hw:∀x∈fb,x.ok tg.length at_.length)(hi:bT=fb.map (Gi.re at_))(l:∀x,x≠X.y->loc.lookup x=(fS pre D.length (bZ D tg)).lookup x)
  (h:LB C X Fin k false (fS pre D.length (bZ D tg)) (cV D fb tg) b):LB C X Fin k kn loc (cV D bT tg) a:=by
 unfold LB at h ⊢;rw [cB] at h ⊢;have k0:(gE at_ b).num a.length 0=0:=ki f _;have g:jJ (bZ D tg) ((gE at_ b).num a.length) (bZ D tg)=bZ D tg:=by
  have:=iT (m:=bZ D tg) (κ:=(gE at_ b).num a.length) (j:=0);rw [k0] at this;exact this
 refine .gc _ (fun z=>jD z) (fun x d=>?_) ⟨fun i hi=>iV (by unfold bZ;exact kF 0x11FCD3AC9125F024F10 tt hb hi),by refine eL aa (eL cB ?_);unfold bZ;exact kF 0x10FC3CD2AC9104F10 tt hb⟩ (LK cB cB (mQ.sub P rfl) k0 fun j o e=>Hs hD (fun i hi=>iV hi) ?_ e) h
 .have ne:x≠X.y:=fun z=>by have:=d z;exact(aA this).elim
  exact eL (l x ne) (eL vp (eL (se (fun i hi=>iV (by unfold bZ;exact dN 0x11FCD2AC9105F10 tt hi)) pre hpre) (eL (iV (by unfold bZ;exact cC 0x11FCD1AC900 tt)) (eL g rfl))))
 .refine eL hi (eL (cZ ..) (eL bh (eL bh (bG fun x d=>?_))));have ok:=hw x d;clear d hi g k0 P f hD hb hpre hw l;rcases x with t|i|c
  .rfl
  .show AV.obj _=AV.obj (jJ _ _ _);exact eL (iV (by have ok:=ok;exact dN 0x11FCD1AC92CD0AC929F10 tt ok)) rfl
  .show AV.obj (bZ D tg+(at_[c]?).getD c)=AV.obj (jJ _ _ (bZ D tg+c));have q:=ao (ok);refine eL iT (eL (ki q ..) (eL q ?_));rfl
noncomputable def Gi.rf(q:Nat)(x:Gi):Gi:=match x with
 |.fz i=>if i=q then .cu 9 else .fz i
 |x=>x
noncomputable def jS(m j:Nat):Nat:=if j<m then j else if j<m+2 then j+9 else if j<m+11 then j-2 else j
noncomputable def WE(m y:Nat):Nat:=if y<m then y else if y<m+9 then y+2 else if y<m+11 then y-9 else y
theorem AX(m j:Nat):WE m (jS m j)=j:=by
 unfold jS;split
 .exact if_pos ‹_›
 .split
  .have h:¬j<m:=‹_›;unfold WE;exact eL (if_neg (by exact fun a=>cC 0x15F0C9B814F10 tt (le_of_not_lt h) a)) (eL (if_neg (by exact fun a=>cC 0x15FC9B80C9B814F10 tt (le_of_not_lt h) a)) (eL (if_pos (by exact cC 0x11FCBB81C9B805FCA10 tt (‹_› : j<m+2))) (Nat.add_sub_cancel _ _)))
  .have h:¬j<m+2:=‹_›;split
   .have b:j-2+2=j:=aq (cC 0x10F1A4F1CA0 tt (le_of_not_lt h));unfold WE;exact eL (if_neg (by exact fun a=>dN 0x14F2CA17F2CA05F10 tt a b (le_of_not_lt h))) (eL (if_pos (by exact dN 0x11FC9B8126F0CA25FCBB810 tt (‹_› : j<m+11) b)) b)
   .have c:¬j<m+11:=‹_›;unfold WE;exact eL (if_neg (by assumption)) (eL (if_neg (by exact fun a=>cC 0x14F0CBB815FC9B810 tt a (le_of_not_lt c))) (eL (if_neg c) rfl))
theorem NA(g:d.length=9)(B:∀o∈d,o.gk 9=true)(hD:∀o∈D,o.gk D.length=true)(hb:X.nb<=D.length)(hpre:mO D.length pre=true)(hw:∀x∈fb,x.ok (tg.length+1) 9)(hi:bT=fb.map (Gi.rf tg.length))
  (h:LB C X Fin k false (fS pre D.length (bZ D (tg++[t]))) (cV D fb (tg++[t])) d):LB C X Fin k false (fS pre D.length (bZ D tg)) (cV D bT tg) (d++rl t 10):=by
 unfold LB at h ⊢;rw [cB] at h ⊢;have f:bZ D (tg++[t])=bZ D tg+2:=by unfold bZ;refine eL aa ?_;show _+2*(tg.length+1)=_;exact cC 0x12FCACD1AC90CDC91AC90 tt
 have lo:∀i,i<bZ D tg->jS (bZ D tg) i=i:=fun i h=>if_pos h
 have mid:∀i,i<2->jS (bZ D tg) (bZ D tg+i)=bZ D tg+(9+i):=fun i h=>by unfold jS;exact eL (if_neg (by exact fun b=>cC 0x15F0C10 tt b)) (eL (if_pos (by exact cC 0x11FCA1C015FA0 tt h)) (cC 0x12FCC19B80C9B8C10 tt))
 have r:∀i,i<9->jS (bZ D tg) (bZ D tg+2+i)=bZ D tg+i:=fun i h=>by unfold jS;exact eL (if_neg (by exact fun b=>cC 0x15F0C1CA0 tt b)) (eL (if_neg (by exact fun b=>cC 0x15FCA0C1CA0 tt b)) (eL (if_pos (by exact cC 0x11FCBB81C0CA15F9B80 tt h)) (dN 0x12FC2106FC2CA1CA0 tt (aq (cC 0x10FC1CA0A tt)))))
 have y:(cV D bT tg++eI (bZ D tg) (d++rl t 10)).length=bZ D tg+11:=by rw [aa,aj,aa,cB,g,AE]
 have u:(cV D fb (tg++[t])++eI (bZ D (tg++[t])) d).length=bZ D tg+11:=by exact eL aa (eL (aj ..) (eL cB (eL g (eL f rfl))))
 have hg:∀i,i<D.length->jS (bZ D tg) i=i:=fun i h=>lo i (by unfold bZ;exact dN 0x11FCD2AC9105F10 tt h)
 have small:∀i,i<11->(cV D bT tg++eI (bZ D tg) (d++rl t 10))[bZ D tg+i]?=((d++rl t 10)[i]?).map (AO.ed (iL (bZ D tg))):=fun i h=>by
  have:=wy (F:=cV D bT tg) (m:=bZ D tg) (O:=d++rl t 10) (i:=i);rw [cB] at this;exact this
 refine .gc (jS (bZ D tg)) (fun z=>jD z) (fun x E=>?_) ⟨fun i hi=>lo i (by unfold bZ;exact kF 0x11FCD3AC9125F024F10 tt hb hi),by refine eL u ?_;unfold bZ;exact dN 0x10FCBB8CD2AC9104F10 tt hb⟩ ⟨?_,fun j o e=>?_,fun i j hi n z=>?_,fun j z=>?_⟩ h
 .refine eL vp (eL (se hg pre hpre) (eL (lo D.length (by unfold bZ;exact cC 0x11FCD1AC900 tt)) (eL f (eL (show bZ D tg+2=bZ D tg+2+0 from rfl) (eL (r 0 (by decide)) ?_)))));rfl
 .show MS (bZ D tg+0)=MS (jS _ (bZ D (tg++[t])+0));exact eL f (eL (r 0 (by decide)) rfl)
 .have e:(cV D fb (tg++[t])++eI (bZ D (tg++[t])) d)[j]?=some o:=e;show(cV D bT tg++eI (bZ D tg) (d++rl t 10))[jS (bZ D tg) j]?=_;rcases aV j (bZ D tg+2) with q|q
  .rw [aJ (by exact eL cB (eL f q))] at e;rcases aV j (bZ D tg) with p|p
   .refine eL (lo j p) (eL (aJ (by exact eL cB p)) ?_);unfold cV at e ⊢;rcases aV j D.length with v|v
    .rw [aJ v] at e ⊢;exact eL e (eL (AO.mE hg o (hD o (aR e))) rfl)
    .rw [aI v] at e ⊢;rcases n:j-D.length with _|i
     .rw [n] at e
      (injection e with b;subst b)
      show some (AO.list (bT.map _))=some (AO.list (dE _ _));refine eL hi (eL (cZ ..) (eL bh (eL bh ?_)));congr 2;refine bG fun x E=>?_
      have ok:=hw x E;induction x with
      |tx t=>rfl
      |fz i=>
       show(if i=tg.length then Gi.cu 9 else Gi.fz i).av _ _=AV.obj (jS _ _);by_cases z:i=tg.length
       .refine eL (if_pos z) (eL z (eL (show D.length+1+2*tg.length=bZ D tg+0 from rfl) (eL (mid 0 (by decide)) ?_)));rfl
       .refine eL (if_neg z) (eL (lo _ (Nat.add_lt_add_left (Nat.mul_lt_mul_of_pos_left (Nat.lt_of_le_of_ne (le_of_lt_succ ok) z) (by decide)) _)) ?_);rfl
      |cu c=>
       show AV.obj (bZ D tg+c)=AV.obj (jS _ (bZ D (tg++[t])+c));exact eL f (eL (r c ok) rfl)
     .rw [n] at e;have e:(tJ (D.length+1) (tg++[t]))[i]?=some o:=e;show(tJ (D.length+1) tg)[i]?=_;have s:i<(tJ (D.length+1) tg).length:=by refine eL kM ?_;unfold bZ at p;exact rj 0x11FD2A47FC9436F0C135FCD2AC910 tt p (aq (cC 0x10F104F10 tt v)) n
      rw [zJ,aJ s] at e;exact eL e (eL (AO.mE lo o (zT (by unfold bZ;exact cC 0x10FCD1AC90CD1AC90 tt) o (aR e))) rfl)
   .obtain ⟨i,rfl⟩:∃i,j=bZ D tg+i:=⟨j-bZ D tg,by exact dN 0x12FC0127F2C10 tt (aq (cC 0x10F104F10 tt p))⟩;have l:i<2:=by exact cC 0x11FA15FCA0C10 tt q
    refine eL (mid i l) (eL (small _ (by exact cC 0x11FBB8C19B85FCA0C10 tt q)) (eL (aI (by exact cC 0x10FC19B806F9B80 tt g)) (eL g (eL (show 9+i-9=i by exact cC 0x12F106FC19B8C9B80 tt (aq (gC 0x10FC09B89B8 tt))) ?_))));unfold cV at e;rw [aI (by unfold bZ;exact dN 0x10FC2CD1AC900 tt),show bZ D tg+i-D.length=(2*tg.length+i)+1 by unfold bZ;exact kF 0x12FC9C3D2A06FC3CD2AC91C10 tt (aq (dN 0x10FC2CD1AC900 tt))] at e;have e:(tJ (D.length+1) (tg++[t]))[2*tg.length+i]?=some o:=e;rw [zJ,aI (by exact eL kM (cC 0x10FC1D0AD0A tt)),kM,ba,show D.length+1+2*tg.length+1=bZ D tg+1 from rfl] at e;have w:=mid 1 (by decide);unfold rl at e ⊢;clear hi h small hg u y r mid lo f g B hD hb hpre hw;rcases A:t.st with _|_
    .rw [A] at e;rcases i with _|_|i
     .clear l;(injection e with b;subst b);show some (gp (tx t.nm) (bZ D tg+10))=some (gp (tx t.nm) (jS (bZ D tg) (bZ D tg+1)));exact eL w rfl
     .clear w l;(injection e with b;subst b);rfl
     .exact absurd l (Nat.not_lt.mpr (le_add_left 2 i))
    .rw [A] at e;rcases i with _|_|i
     .clear l;(injection e with b;subst b);show some (gD (tx t.nm) (bZ D tg+10))=some (gD (tx t.nm) (jS (bZ D tg) (bZ D tg+1)));exact eL w rfl
     .clear w l;(injection e with b;subst b);rfl
     .exact absurd l (Nat.not_lt.mpr (le_add_left 2 i))
  .obtain ⟨i,rfl⟩:∃i,j=bZ D tg+2+i:=⟨j-(bZ D tg+2),by exact dN 0x12FC0CA127F2CCA10 tt (aq (cC 0x10F1CA04F1CA0 tt q))⟩;rw [aI (by refine eL cB (eL f ?_);assumption),cB,f,ba,aH] at e;refine bW (aQ.mp e) fun o' e1 G=>?_
   clear e hi h hg u y mid lo f hD hb hpre hw;subst G;have s:i<9:=g▸(au.mp e1).1;refine eL (r i s) (eL (small i (by exact gC 0x11FBB805F9B80 tt s)) (eL (aJ (by exact cC 0x11F015F9B817F9B80 tt g s)) (eL e1 (eL (AO.jB ..) ?_))));show some (o'.ed _)=_;refine eL (AO.kA (fun a H=>(r a H).symm) o' (B o' (aR e1))) ?_;rfl
 .have hi:i<(cV D fb (tg++[t])++eI (bZ D (tg++[t])) d).length:=hi;have n:j<(cV D fb (tg++[t])++eI (bZ D (tg++[t])) d).length:=n;rw [u] at hi n;exact(AX _ i).symm.trans ((az (WE _) z).trans (AX _ j))
 .have z:jS (bZ D tg) j<(cV D bT tg++eI (bZ D tg) (d++rl t 10)).length:=z;show j<(cV D fb (tg++[t])++eI (bZ D (tg++[t])) d).length;rw [y] at z;refine eL u ?_;unfold jS at z;split at z
  .assumption
  .split at z
   .exact cC 0x11FCBB8105FCBB81C9B80 tt z
   .split at z<;>assumption
end
def ER(C:Ctx)(X:Ls)(a:List (Str×AV))(F c O d:List AO)(j:Nat):Prop:=∃fl b,(fl=.next\/fl=.cont)/\dz C X.body (X.su (put X.y (.obj (F.length+j)) a) (F++eI F.length O)) fl (X.su b (c++eI F.length d))/\∀x,x≠X.y->b.lookup x=a.lookup x
section
variable{Fin:List (Str×AV)->List AO->Prop}{st:Option Addr}
theorem uE(e:QX at_ O c=true):mQ at_ (ip θ c) (ip θ O) ((gE at_ (ip θ c)).num (ip θ O).length):=by
 have e:=ab.mp e;have a:=ab.mp e.1;have P:=zK (aC.mp a.1) a.2 e.2;refine⟨P.len.trans (aj _).symm,P.pos,fun i j o f b=>(bW (aQ.mp (eR aH b)) fun o' g d=>?_)⟩;clear b a e;subst d;exact eL aH (eL (aj ..) (eR (AO.mB ..) (az (Option.map (AO.sub θ)) (P.obj i j o' f g))))
theorem nq:ip θ (kX st O)=kX st (ip θ O):=by
 rcases st with _|a
 .rfl
 .induction O with
  |nil=>rfl
  |cons o r=>
   induction o with
   |inst c as=>show AO.inst c (cY θ (put _ _ as))::_=AO.inst c (put _ _ (cY θ as))::_;refine eL (yW ..) ?_;rfl
   |_=>rfl
theorem Er:∀ {as} {ns},mD (cY θ as) ns=mD as ns:=by
 intro as;induction as with
 |nil=>
  intro _;exact rfl
 |cons p r a=>
  intro ns;rcases ns with _|⟨n,ns⟩
  .rfl
  .show ((p.1==n)&&mD (cY θ r) ns)=((p.1==n)&&mD r ns);exact eL a rfl
theorem Ey(h:x≠y)(l):(put y v l).lookup x=l.lookup x:=by exact eL (ef ..) (eL (if_neg h) rfl)
theorem xY(G:Good C)(S:Sy C θ Φ Es)(e:TX (fk C.K Φ Es N) X n O at_ b=true)(a:at_[0]?=some 0)(hD:∀o∈D,o.gk D.length=true)(hb:X.nb<=D.length)(hpre:mO D.length pre=true)(hw:∀x∈fb,x.ok tg.length at_.length)(hi:bT=fb.map (Gi.re at_))
  (h:LB C X Fin k false (fS pre D.length (bZ D tg)) (cV D fb tg) (ip θ b)):LB C X Fin k false (fS pre D.length (bZ D tg)) (cV D bT tg) (ip θ O):=by
 exact bW (cH e) fun c e1 e2=>(Ow G S e1 (Nz (uE e2) a hD hb hpre hw hi (fun _ _=>rfl) h))
theorem ug(G:Good C)(S:Sy C θ Φ Es)(e:Ud (fk C.K Φ Es N) X n O t M st at_ q=true)(u:at_[0]?=some 0)(hD:∀o∈D,o.gk D.length=true)(hb:X.nb<=D.length)(hpre:mO D.length pre=true)(hw:∀x∈fb,x.ok tg.length at_.length)(J:F.length=bZ D tg)
  (body:∀(d:List AO) (j:Nat),d[j]?=some (t.sub θ)->ZJ M j=true->(∃as r,d=.inst 755 as::r/\(mD as HX||mD as (HX++(["temporaryBuffer"]:List Str)))=true)->mQ at_ (ip θ q) (kX st d) ((gE at_ (ip θ q)).num (kX st d).length)->ER C X (fS pre D.length (bZ D tg)) F (cV D (fb.map (Gi.re at_)) tg) d (kX st d) j)
  (h:LB C X Fin k false (fS pre D.length (bZ D tg)) (cV D fb tg) (ip θ q)):LB C X Fin (k+1) false (fS pre D.length (bZ D tg)) F (ip θ O):=by
 refine bW (cH e) fun O1 e1 e=>(bW (cH e) fun p e2 e=>(bY (ab.mp e) fun l e=>(bW (cH l) fun j i l=>(bY (ab.mp l) fun L z=>(bY (ab.mp z) fun w g=>(bY (ab.mp e) fun f s=>?_))))))
 clear z l e;obtain⟨y,d⟩:=p;refine bW (aM.mp i) fun v ev i=>?_
 have ev:=ev;clear l e;subst ev;have U:v=.obj j:=by rcases v with⟨⟩<;>first|(cases i;rfl)|exact cX i
 clear ev i e;subst U;refine bW (cH f) fun c H f=>(bY (ab.mp f) fun f A=>(bY (ab.mp f) fun f el=>?_))
 have m:=qi G S H el;rw [show c.1=false from(bM _).mp f,jZ _ _ A,nq] at m;have E:(ip θ d)[j]?=some (t.sub θ):=by
  refine bW (cH L) fun o z1 z2=>?_;refine eL aH (eL z1 (eL (AO.gI z2) ?_));rfl
 have r4:∃as r,ip θ d=.inst 755 as::r/\(mD as HX||mD as (HX++(["temporaryBuffer"]:List Str)))=true:=by
  have g:=g;clear E m f el A H i s w L e e2 e1 G S u hD hb hpre hw J;rcases d with _|⟨o,r⟩
  .exact (aA g).elim
  .clear f O1;induction o with
   |inst c as=>
    refine bY (ab.mp g) fun e5 P=>?_;clear g f;obtain rfl:=aC.mp (e5:(c==755)=true)
    exact dJ _ _ ⟨rfl,eL Er (eL Er P)⟩
   |_=>exact(aA g).elim
 refine cw (body (ip θ d) j E w r4 (eR nq (uE s))) fun fl ma hf tb V=>(cw ((NF G S e2).ex) fun Oa Ob a b Z=>(bW Z fun Oc cc T=>?_))
 have B:(cV D (fb.map (Gi.re at_)) tg).length=F.length:=cB.trans J.symm;have fin:=Nz (kn:=true) (uE s) u hD hb hpre hw rfl V h;rw [nq] at fin;exact Ow G S e1 (.r7 (fx.sh a) (fx.sh b) (fx.sh cc) (iD.sh T) tb hf (Ed:=cE (iL F.length) jw) (qS:=cV D (fb.map (Gi.re at_)) tg++eI F.length (kX st (ip θ d))) (eR B (fx.sh m)) (eR B fin))
end
noncomputable def cm(α:Str->Value)(pre:List (Str×AV)):List (Str×AV):=pre.map fun p=>(p.1,.top (α p.1))
noncomputable def cp(a:List Value):List AV:=a.map .top
noncomputable def hide(f:Str->Bool):(Nat->Value)->List (Str×AV)->List (Str×AV)
 |_,[]=>[]
 |α,p::r=>(p.1,bif f p.1 then .top (α 0) else p.2)::hide f (fun i=>α (i+1)) r
noncomputable def lC:List Str->(Nat->Value)->List (Str×AV)
 |[],_=>[]
 |n::r,α=>(n,.top (α 0))::lC r (fun i=>α (i+1))
def Bp(C:Ctx)(Ω:Om)(o o':AO):Prop:=∀cb a d,Mo Ω cb->gz C cb a d o'->gz C cb a d o
def Zn(C:Ctx)(Ω:Om)(l l':List (Str×AV)):Prop:=∀cb L,Mo Ω cb->nh C cb L l'->nh C cb L l
def Si(C:Ctx)(Ω:Om):List (Str×AV)->List (Str×AV)->Prop:=F2 fun p q=>p.1=q.1/\∀cb v,Mo Ω cb->VR C cb q.2 v->VR C cb p.2 v
section
variable{C:Ctx}{Fm:Fm}{Ω cb:Om}{L:Nat}{l pre nd rh:List (Str×AV)}{es fs:List (Str×AV)}{xs ys:List AV}{α:Str->Value}{x:Str}{a d c dp:Nat}{at_:List Nat}{O O' big tA:List AO}{b:List Stmt}{fl:Fl}{sc:Scope}{σ τ:St}
theorem cy:(l++r).lookup x=match l.lookup x with|some a=>some a|none=>r.lookup x:=by
 induction l with
 |nil=>rfl
 |cons p l e=>
  refine eL cons_append (eL aY (eL aY ?_));rcases x==p.1 with _|_
  .exact e
  .rfl
theorem jM:(cm α pre).lookup x=(pre.lookup x).map fun _=>.top (α x):=by
 induction pre with
 |nil=>rfl
 |cons p l e=>
  show List.lookup x ((p.1,.top (α p.1))::cm α l)=_;refine eL aY (eL aY ?_);rcases h:x==p.1 with _|_
  .exact e
  .refine eL (aC.mp h) ?_;rfl
theorem pg(h:VR C Ω (.top v) w):w=v:=h.inv
theorem uL(h:nh C Ω L l)(g:∀x,l.lookup x=(nd++pre).lookup x):∃α,nh C Ω L (nd++cm α pre)/\∀l' rh,(∀x,l'.lookup x=(rh++pre).lookup x)->(∀x,rh.lookup x=none->nd.lookup x=none)->Zn C Ω l' (rh++cm α pre):=by
 refine cS h fun m k a b=>?_;have key:∀x z,nd.lookup x=none->pre.lookup x=some z->∃v,m x=some v/\VR C Ω z v:=fun x z e1 e2=>a x z (eL (g ..) (eL (cy ..) (eL (e1 ..) e2)))
 refine⟨fun x=>(m x).getD .none,⟨m,k,fun x av e=>?_,fun x e=>?_⟩,fun l' rh j t cb B w y=>?_⟩
 .rw [cy,jM] at e;rcases q:nd.lookup x with _|z
  .rw [q] at e;rcases f:pre.lookup x with _|z
   .rw [f] at e;exact cX e
   .rw [f] at e
    (injection e with s;subst s)
    exact bW (key x z q f) fun v e1 _=>⟨v,e1,eL e1 (.top v)⟩
  .rw [q] at e;exact a x av (eL (g ..) (eL (cy ..) (eL (q ..) e)))
 .rw [cy,jM] at e;refine b x (eL (g ..) (eL (cy ..) ?_));rcases q:nd.lookup x with _|z
  .rw [q] at e;rcases f:pre.lookup x with _|z
   .rfl
   .rw [f] at e;exact cX (Eq.symm e)
  .rw [q] at e;exact cX (Eq.symm e)
 .refine cS y fun o A i n=>⟨o,A,fun x av e=>?_,fun x e=>?_⟩
  .rw [j,cy] at e;rcases q:rh.lookup x with _|z
   .rw [q] at e;refine bW (key x av (t x q) e) fun v e1 r=>(bW (i x (.top ((m x).getD .none)) (by refine eL cy (eL q (eL jM ?_));show(pre.lookup x).map _=_;refine eL (show pre.lookup x=some av from e) ?_;rfl)) fun u e2 p=>?_)
    exact⟨u,e2,(eL (pg p) (eL e1 (r.eK w)))⟩
   .rw [q] at e;exact i x av (eL cy (eL q e))
  .rw [j,cy] at e;refine n x (eL cy (eL jM ?_));rcases q:rh.lookup x with _|z
   .rw [q] at e;refine eL (show pre.lookup x=none from e) ?_;rfl
   .rw [q] at e;exact cX (Eq.symm e)
theorem de.split(r:de C Ω (xs++ys) e):∃us f,e=us++f/\de C Ω xs us/\de C Ω ys f:=by
 have l:=r.len;rw [aa] at l;refine dJ (e.take xs.length) (e.drop xs.length) ⟨(List.take_append_drop _ _).symm,⟨eL bE (min_eq_left (l▸aK _ _)).symm,fun i x v e1 e2=>?_⟩,⟨by exact eL bw (kF 0x12F036F2C317F2C10 tt (aq (dN 0x10F206F2C10 tt l)) l),fun i x v e1 e2=>(r.at_ (xs.length+i) x v (eL (aI (aK _ _)) (eL (ba ..) e1)) (eR getElem?_drop e2))⟩⟩
 .have lt:=(au.mp e1).1;exact r.at_ i x v (eL (aJ lt) e1) (eR (getElem?_take_of_lt lt) e2)
theorem de.XD:de C Ω (cp f) f:=⟨aj _,fun i x v e1 e2=>by
 unfold cp at e1;rw [aH,e2] at e1
 (injection e1 with e;subst e)
 exact .top v⟩
theorem de.MQ(r:de C Ω (cp us) f):f=us:=by
 refine ext_getElem? fun i=>?_;have l:=r.len
 unfold cp at l;rw [aj] at l;rcases aV i us.length with h|h
 .have e:=l▸h;have q:=r.at_ i (.top us[i]) f[i] (by refine eL aH (eL (ao h) ?_);rfl) (ao e);exact eL (ao h) (eL (ao e) (eL (pg q) rfl))
 .exact eL (aT h) (eL (aT (l▸h)) rfl)
theorem vg{a b:List AV}:dE e (a++b)=dE e a++dE e b:=by exact eL (cZ ..) (eL aO (eR (cZ ..) (eR (cZ ..) rfl)))
theorem sC(h:gz C Ω a d (.list (xs++ys))):∃j,j.length=xs.length/\gz C Ω a d (.list (cp j++ys))/\∀zs,Bp C Ω (.list (xs++zs)) (.list (cp j++zs)):=by
 refine cw h fun f k e r l=>(cw (r.split) fun us f i g m=>?_)
 clear h;subst i;refine⟨us,g.len.symm,⟨us++f,k,e,de.append .XD m,by exact eL aa (eL (aj ..) (eR g.len (eR aa l)))⟩,fun zs cb a d w n=>(cw n fun f k e r l=>(cw (r.split) fun o f i p q=>?_))⟩;clear r n m;subst i;exact dJ (o++f) k ⟨e,de.append (p.MQ▸g.eK w) q,by unfold cp at l;rw [aa,aj,<-g.len,<-aa] at l;exact l⟩
theorem rW{β:Type}{N:Str->β->Prop}{val:β->Value}(f:Str->Bool){bs:List β}(h:F2 (fun p e=>N p.1 e/\VR C Ω p.2 (val e)) es bs):∃α,F2 (fun p e=>N p.1 e/\VR C Ω p.2 (val e)) (hide f α es) bs/\Si C Ω es (hide f α es):=by
 induction h with
 |nil=>exact⟨fun _=>.none,.nil,.nil⟩
 |@cons p e ps es h t j=>
  refine bW j fun α g i2=>?_;refine⟨fun i=>match i with|0=>val e|i+1=>α i,.cons ⟨h.1,?_⟩ g,.cons ⟨rfl,fun cb v w r=>?_⟩ i2⟩
  .show VR C Ω (bif f p.1 then .top (val e) else p.2) (val e);rcases f p.1 with _|_
   .exact h.2
   .exact .top _
  .have r:VR C cb (bif f p.1 then .top (val e) else p.2) v:=r;rcases q:f p.1 with _|_
   .rw [q] at r;exact r
   .rw [q] at r;exact eL (pg r) (h.2.eK w)
theorem Si.out{N:Str->β->Prop}{val:β->Value}(w:Mo Ω cb)(h:Si C Ω es fs):∀ {bs},F2 (fun p e=>N p.1 e/\VR C cb p.2 (val e)) fs bs->F2 (fun p e=>N p.1 e/\VR C cb p.2 (val e)) es bs:=by
 induction h with
 |nil=>exact fun k=>by cases k;exact .nil
 |cons h t i=>
  intro bs k;cases k with
  |cons f g=>exact .cons ⟨h.1▸f.1,h.2 _ _ w f.2⟩ (i g)
theorem Si.put(h:Si C Ω es fs):Si C Ω (put k v es) (put k v fs):=by
 unfold Si at h ⊢;induction h with
 |nil=>exact .cons ⟨rfl,fun _ _ _ r=>r⟩ .nil
 |@cons p q ps e h t f=>
  show F2 _ (if p.1==k then(p.1,v)::ps else p::Mine.put k v ps) (if q.1==k then(q.1,v)::e else q::Mine.put k v e);refine eR h.1 ?_;split
  .exact .cons ⟨rfl,fun _ _ _ r=>r⟩ t
  .exact .cons h f
theorem lX:∀ {α} {es},hide (fun _=>true) α es=lC (es.map (·.1)) α
 |_,[]=>rfl
 |α,p::r=>az (List.cons (p.1,AV.top (α 0))) (lX)
theorem BV(h:gz C Ω a d (.inst c es)):∃α,gz C Ω a d (.inst c (lC (es.map (·.1)) α))/\∀k v,Bp C Ω (.inst c (put k v es)) (.inst c (put k v (lC (es.map (·.1)) α))):=by
 refine fq h fun ne e g=>(cw g fun f k i q l=>(bW (rW (β:=DictEntry) (N:=fun n e=>∃t,e.key=.str n t) (val:=(·.val)) (fun _=>true) q) fun α m j=>?_))
 rw [lX (α:=α)] at m j;refine⟨α,⟨ne,e,f,k,i,m,eR j.len l⟩,fun k v cb a d w o=>(fq o fun ne e g=>(cw g fun f n i q l=>?_))⟩;have p:=j.put (k:=k) (v:=v);exact⟨ne,e,f,n,i,p.out (β:=DictEntry) (N:=fun n e=>∃t,e.key=.str n t) (val:=(·.val)) w q,eL p.len l⟩
theorem jc(f)(h:gz C Ω a d (.dict es)):∃α,gz C Ω a d (.dict (hide f α es))/\Bp C Ω (.dict es) (.dict (hide f α es)):=by
 exact cS h fun i e q l=>(bW (rW (β:=Str×Value) (N:=fun n e=>e.1=n) f q) fun α j g=>⟨α,⟨i,e,j,eR g.len l⟩,fun cb a d w k=>(cS k fun i e q l=>⟨i,e,g.out (β:=Str×Value) (N:=fun n e=>e.1=n) w q,eL g.len l⟩)⟩)
theorem Hr.vF(H:Hr C Fm Ω s)(g:s.sc=t.sc)(hd:s.dep=t.dep)(e:s.obj.length=t.obj.length)(f:nh C Ω Fm.L t.loc)(o:∀(i:Nat) ob,t.obj[i]?=some ob->gz C Ω (Ω.ρ i).1 (Ω.ρ i).2 ob):Hr C Fm Ω t:=
 ⟨⟨e▸H.rel.n,f,o,H.rel.inj,H.rel.eu,H.rel.old,H.rel.uK,H.rel.lo,H.rel.hi,H.rel.toks⟩,hd▸H.room,g▸H.env⟩
theorem dz.YB(h:∀F Ω,Hr C F Ω σ->∃j g k e,σ.obj.length=g.length/\nh C Ω F.L j/\(∀(i:Nat) ob,g[i]?=some ob->gz C Ω (Ω.ρ i).1 (Ω.ρ i).2 ob)/\dz C b ⟨σ.sc,j,g,σ.dep⟩ fl ⟨σ.sc,k,e,σ.dep⟩/\
   Zn C Ω τ.loc k/\τ.obj.length=e.length/\∀(i:Nat) o,τ.obj[i]?=some o->∃o',e[i]?=some o'/\Bp C Ω o o')
  (v:σ.sc=τ.sc) (hd:σ.dep=τ.dep) (y:fl=.next\/fl=.cont):dz C b σ fl τ:=fun F Ω H=>by
 refine TV (h F Ω H) fun j g k e e1 e2 u t s p r=>(wp_mono (t F Ω (H.vF rfl rfl e1 e2 u:Hr C F Ω ⟨σ.sc,j,g,σ.dep⟩)) fun f s' z=>(dW z ?_))
 clear z;intro D n m q w;clear e1 e2 u t h;subst w;refine(.in n (m.vF v hd p.symm (s _ _ n.mo m.rel.fr) fun i ob z=>(bW (r i ob z) fun o' A B=>(B _ _ _ n.mo (m.rel.ob i o' A)))) ?_)
 .clear n m j g s p r;rcases y with rfl|rfl
  .clear k e;refine q.jk ?_;exact .next
  .clear k e;refine q.wg ?_;exact .cont
theorem dz.F4(P:mQ at_ O big ((gE at_ []).num big.length))(t:dz C b ⟨sc,nd,O,dp⟩ fl ⟨sc,rh,O'++N,dp⟩)(g:O'.length=O.length)(hb:tA.length=big.length)
  (ho:∀(i j:Nat) (o:AO),at_[i]?=some j->O'[i]?=some o->tA[j]?=some (o.ed ((gE at_ []).num big.length))) (v:∀j,j∉at_->tA[j]?=big[j]?) (A:fl=.next\/fl=.cont):
  dz C b ⟨sc,cE ((gE at_ []).num big.length) nd,big,dp⟩ fl ⟨sc,cE ((gE at_ []).num big.length) rh,tA++N.map (AO.ed ((gE at_ []).num big.length)),dp⟩:=fun F Ω H=>by
 have S:Sub ((gE at_ []).num big.length) ⟨sc,cE ((gE at_ []).num big.length) nd,big,dp⟩ ⟨sc,nd,O,dp⟩:=mQ.sub P rfl;refine wp_mono (t F (Ω.small ((gE at_ []).num big.length) O.length) (H.shrink S rfl rfl)) fun f s' z=>(dW z fun D k p n y=>?_)
 clear t;subst y;have num:∀ {i j:Nat},at_[i]?=some j->(gE at_ []).num big.length i=j:=fun h=>ki h _
 have m:∀i,O.length<=i->(gE at_ []).num big.length i=big.length+(i-O.length):=fun i hi=>yN (P.len▸hi) _ |>.trans (by refine eR P.len ?_;rfl)
 have s:Out ((gE at_ []).num big.length) O.length ⟨sc,cE ((gE at_ []).num big.length) nd,big,dp⟩ ⟨sc,rh,O'++N,dp⟩ ⟨sc,cE ((gE at_ []).num big.length) rh,tA++N.map (AO.ed ((gE at_ []).num big.length)),dp⟩:=by
  refine⟨rfl,(eL aa (eL aa (eL (aj ..) (eL g (eL hb (eL (Nat.add_assoc ..) (eL (Nat.add_comm N.length ..) rfl))))))),fun i o z=>?_,fun j e no=>(eL (aJ (hb▸(e:j<big.length))) (v j fun w=>cN (List.mem_iff_getElem?.mp w) fun i hi=>no i (P.len▸(au.mp hi).1) (num hi).symm)),m⟩
  .have z:=z;clear k p n S;rcases aV i O.length with lt|ge
   .refine cN ((fun i h=>⟨_,ao (P.len▸h)⟩:∀i,i<O.length->∃j,at_[i]?=some j) i lt) fun j e=>?_;exact eL (num e) (eL (aJ (hb▸P.lt e)) (ho i j o e (eR (aJ (g▸lt)) z)))
   .rw [aI (g▸ge),g] at z;refine eL (m i ge) (eR hb (eL (aI (aK _ _)) (eL (ba ..) (eL aH (eL z ?_)))));rfl
 refine PF (H.frame S s rfl rfl k p.rel) fun B r q e2 sm u=>⟨B,r,q,?_,e2⟩
 clear r q e2 sm u s m num k p z S P g hb;rcases A with rfl|rfl
 .refine n.jk ?_;exact .next
 .refine n.wg ?_;exact .cont
end
def JQ(P:Params)(r:List (Str×AV))(O:List AO):St:=(X2 P).su (("got",.obj 0)::("token",.obj 1)::r) O
def Zr(P:Params)(r:List (Str×AV))(rd:List (Str×AV))(O:List AO):St:=(X2 P).su (("got",.obj 0)::("token",.obj 1)::("reader",.obj 2)::r) (O++[.inst 755 rd])
noncomputable def SM(nm:bQ)(v:Value):AO:=.dict [("type",.lf (.int 4)),("name",.lf nm),("data",.top v),("selfClosing",.lf (.bool false))]
noncomputable def stH(nm:bQ)(v:Value):AO:=.dict [("type",.lf (.int 3)),("name",.lf nm),("data",.top v),("selfClosing",.lf (.bool false)),("selfClosingAcknowledged",.lf (.bool false))]
noncomputable def t5:List Fact:=[⟨.len,[.sym 1],.sym 3⟩,⟨.add,[.sym 1,.sym 2],.sym 4⟩]
theorem Mm(P)(r):([1,2].map fun a=>(R3 P t5 []).fL (X2 P).body (JQ P r [.fK [] 0 [.lf (.sym 1)],eZ a (.sym 2)]))=[1,2].map fun a=>some (.cont,JQ P r [.fK [] 0 [.lf (.sym 4)],eZ a (.sym 2)]):=by kernel_rfl
theorem Mc(P)(r):([1,2].map fun a=>(R3 P [] []).fL (X2 P).body (JQ P r [.list [],eZ a (.sym 2)]))=[1,2].map fun a=>some (.cont,JQ P r [.list [.lf (.sym 2)],eZ a (.sym 2)]):=by kernel_rfl
theorem RI(P)(r es):([1,2].map fun a=>(R3 P [] []).fL (X2 P).body (JQ P r [.fK [] 0 [.obj 2],eZ a (.sym 2),.dict es]))=[1,2].map fun a=>some (.cont,JQ P r [.fK [] 0 [.obj 2,.lf (.sym 2)],eZ a (.sym 2),.dict es]):=by kernel_rfl
theorem Pk(P)(r)(v):(R3 P [] []).fL (X2 P).body (JQ P r [.fK [] 0 [],SM (.sym 1) v])=some (.next,JQ P r [.fK [] 0 [.obj 1],SM (.sym 1) v]):=by kernel_rfl
noncomputable def names:List (List Nat×Addr):=[([116,105,116,108,101],311),([115,116,121,108,101],325),([115,99,114,105,112,116],332),([116,101,120,116,97,114,101,97],311),([120,109,112],325),([112,108,97,105,110,116,101,120,116],339)]
def PU:List (List Str):=[HX,HX++(["temporaryBuffer"]:List Str)]
theorem UU(P)(r)(v)(α):(names.map fun p=>PU.map fun s=>(R3 P [] []).fL (X2 P).body (Zr P r (lC s α) [.fK [] 0 [],stH (tx p.1) v]))=names.map fun p=>PU.map fun s=>some (.next,Zr P r (put "state" (.cv p.2 (.obj 2)) (lC s α)) [.fK [] 0 [.obj 1],stH (tx p.1) v]):=by kernel_rfl
noncomputable abbrev pE(at_:List Nat)(X:List AO):Ent:=⟨0,[],at_,[],0,.next,X,none⟩
abbrev fD(at_:List Nat)(n:Nat):Nat->Nat:=(gE at_ []).num n
theorem vB:cE a (cm α pre)=cm α pre:=by
 unfold cE cm;refine eL bh ?_;rfl
theorem dC:cY θ (cm α pre)=cm α pre:=by
 unfold cY cm;refine eL bh ?_;rfl
theorem pX:cE c (a++b)=cE c a++cE c b:=aO
section
theorem dz.Mk(hp:∀(i j:Nat),at_[i]?=some j->gV at_ j=some i)
  (h:∀F Ω,Hr C F Ω ⟨sc,loc,B,dp⟩->∃O d:List AO,O.length=at_.length/\d.length=at_.length/\
   (∀(i j:Nat) (o:AO),at_[i]?=some j->O[i]?=some o->gz C Ω (Ω.ρ j).1 (Ω.ρ j).2 (o.ed (fD at_ B.length)))/\
   (∀(i j:Nat) (o:AO),at_[i]?=some j->d[i]?=some o->∃ob,B'[j]?=some ob/\Bp C Ω ob (o.ed (fD at_ B.length)))/\
   ∀α:Str->Value,dz C b ⟨sc,nd++cm α rest,O,dp⟩ fl ⟨sc,rh++cm α rest,d++N,dp⟩)
  (G:∀x,loc.lookup x=(cE (fD at_ B.length) nd++rest).lookup x) (L:∀x,eH.lookup x=(cE (fD at_ B.length) rh++rest).lookup x) (S:∀x,rh.lookup x=none->nd.lookup x=none)
  (M:∀j∈at_,j<B.length) (l:B'.length=B.length) (w:∀j,j∉at_->B'[j]?=B[j]?) (u:fl=.next\/fl=.cont):
  dz C b ⟨sc,loc,B,dp⟩ fl ⟨sc,eH,B'++N.map (AO.ed (fD at_ B.length)),dp⟩:=by
 refine dz.YB (fun F Ω H=>(Kf (h F Ω H) fun O d n s P E t=>(bW (uL H.rel.fr G) fun α U J=>?_))) rfl rfl u;have pl:∀X,((pE at_ X).put B).length=B.length:=fun X=>sV
 have e:∀X i j (o:AO),at_[i]?=some j->X[i]?=some o->((pE at_ X).put B)[j]?=some (o.ed (fD at_ B.length)):=fun X i j o a c=>by
  have lt:=M j (aR a);refine eL (xx lt) (eL (ao lt) ?_);refine eL (hp i j a) ?_;show some (dg (X[i]?) (AO.ed (fD at_ B.length)) B[j])=_;refine eL c ?_;rfl
 have g:∀X j,(j∈at_->False)->((pE at_ X).put B)[j]?=B[j]?:=fun X j q=>by
  rcases aV j B.length with lt|ge
  .refine eL (xx lt) (eL (ao lt) ?_);rcases z:gV at_ j with _|i
   .rfl
   .exact absurd (aR (rK z)) q
  .rw [aT ge,aT (eL (pl ..) ge)]
 have ex:∀(X:List AO),X.length=at_.length->∀j,j∈at_->∃(i:Nat) (o:AO),at_[i]?=some j/\X[i]?=some o:=fun X A j f=>
  cN (List.mem_iff_getElem?.mp f) fun i hi=>(dJ i _ ⟨hi,ao (A▸(au.mp hi).1)⟩)
 have T:=dz.F4 (⟨n.symm,hp,fun i j o a c=>by exact eL (pl ..) (e O i j o a c)⟩:mQ at_ O ((pE at_ O).put B) (fD at_ ((pE at_ O).put B).length)) (t α) (s.trans n.symm) ((pl d).trans (pl O).symm) (fun i j o a c=>by exact eL (pl ..) (e d i j o a c)) (fun j f=>by exact eL (g d j f ..) (eL (g O j f ..) rfl)) u;rw [pl,pX,pX,vB] at T;refine oP _ _ _ _ ⟨(pl O).symm,U,fun i ob z=>?_,T,J eH _ L fun x v=>?_,(eL (aa ..) (eL (aa ..) (eL (pl ..) (eL (l ..) rfl)))),fun i o z=>?_⟩
 .by_cases m:i∈at_
  .refine eF (ex O n i m) fun k o a c=>?_;rw [e O k i o a c] at z
   (injection z with p;subst p)
   exact P k i o a c
  .exact H.rel.ob i ob (eR (g O i m) z)
 .rw [ij] at v ⊢;refine eL (S x (map_eq_none_iff.mp v)) ?_;rfl
 .have z:=z;rcases aV i B.length with lt|ge
  .rw [aJ (l▸lt)] at z;rw [aJ (eL (pl ..) lt)];by_cases m:i∈at_
   .refine eF (ex d s i m) fun k o' a c=>(bW (E k i o' a c) fun ob D y=>?_)
    (injection (D.symm.trans z) with p;subst p)
    exact⟨_,e d k i o' a c,y⟩
   .exact ⟨o,(g d i m).trans (eR (w i m) z),fun _ _ _ _ r=>r⟩
  .rw [aI (l▸ge),l] at z;exact⟨o,by rw [aI (eL (pl ..) ge),pl];exact z,fun _ _ _ _ r=>r⟩
end
section
theorem ny:dE b (cp a)=cp a:=by
 refine eL (cZ ..) (eL bh ?_);rfl
theorem BN:subs θ (cp a)=cp a:=by
 refine eL (cP ..) (eL bh ?_);rfl
theorem dz.Ba(hp:∀(i j:Nat),(g::mW)[i]?=some j->gV (g::mW) j=some i)
  (f:B[g]?=some (.list (xs++dE (fD (g::mW) B.length) ys))) (y:B'[g]?=some (.list (xs++dE (fD (g::mW) B.length) zs)))
  (h:∀F Ω,Hr C F Ω ⟨sc,loc,B,dp⟩->∃O d:List AO,O.length=mW.length/\d.length=mW.length/\
   (∀(i j:Nat) (o:AO),mW[i]?=some j->O[i]?=some o->gz C Ω (Ω.ρ j).1 (Ω.ρ j).2 (o.ed (fD (g::mW) B.length)))/\
   (∀(i j:Nat) (o:AO),mW[i]?=some j->d[i]?=some o->∃ob,B'[j]?=some ob/\Bp C Ω ob (o.ed (fD (g::mW) B.length)))/\
   ∀(α:Str->Value) (a:List Value),a.length=xs.length->dz C b ⟨sc,nd++cm α rest,.list (cp a++ys)::O,dp⟩ fl ⟨sc,rh++cm α rest,.list (cp a++zs)::d++N,dp⟩)
  (s:∀x,loc.lookup x=(cE (fD (g::mW) B.length) nd++rest).lookup x) (w:∀x,eH.lookup x=(cE (fD (g::mW) B.length) rh++rest).lookup x) (E:∀x,rh.lookup x=none->nd.lookup x=none)
  (z:∀j∈mW,j<B.length) (D:B'.length=B.length) (k:∀j,j∉g::mW->B'[j]?=B[j]?) (p:fl=.next\/fl=.cont):
  dz C b ⟨sc,loc,B,dp⟩ fl ⟨sc,eH,B'++N.map (AO.ed (fD (g::mW) B.length)),dp⟩:=by
 have n:=(au.mp f).1;refine dz.Mk hp (fun F Ω H=>(Kf (h F Ω H) fun O d A q l u t=>(cS (sC (H.rel.ob g _ f)) fun a m G r=>(dJ (.list (cp a++ys)::O) (.list (cp a++zs)::d) ⟨az (· +1) A,az (· +1) q,fun i j o e1 e2=>?_,fun i j o e1 e2=>?_,fun α=>t α a m⟩)))) s w E (fun j v=>(aU.mp v).elim (fun e=>e▸n) (z j)) D k p
 .rcases i with _|i
  ·(injection e1 with c;subst c);(injection e2 with c;subst c)
   show gz C Ω _ _ (.list (dE _ (cp a++ys)));exact eL vg (eL ny G)
  .exact l i j o e1 e2
 .rcases i with _|i
  ·(injection e1 with c;subst c);(injection e2 with c;subst c)
   refine⟨_,y,?_⟩;show Bp C Ω _ (.list (dE _ (cp a++zs)));exact eL vg (eL ny (r _))
  .exact u i j o e1 e2
theorem dz.JJ(hp:∀(i j:Nat),(g::mW)[i]?=some j->gV (g::mW) j=some i)
  (n:B[g]?=some (.list (xs++dE (fD (g::mW) B.length) ys))) (r:B'[g]?=some (.list (xs++dE (fD (g::mW) B.length) zs)))
  (h:∀F Ω,Hr C F Ω ⟨sc,loc,B,dp⟩->∃O k:List AO,O.length=mW.length/\k.length=mW.length/\
   (∀(i j:Nat) (o:AO),mW[i]?=some j->O[i]?=some o->gz C Ω (Ω.ρ j).1 (Ω.ρ j).2 (o.ed (fD (g::mW) B.length)))/\
   (∀(i j:Nat) (o:AO),mW[i]?=some j->k[i]?=some o->∃ob,B'[j]?=some ob/\Bp C Ω ob (o.ed (fD (g::mW) B.length)))/\
   ∀(α:Str->Value) (f:List Value),f.length=xs.length->dz C b ⟨sc,nd++cm α rest,.list (cp f++ys)::O,dp⟩ fl ⟨sc,nd++cm α rest,.list (cp f++zs)::k,dp⟩)
  (l:∀x,loc.lookup x=(cE (fD (g::mW) B.length) nd++rest).lookup x) (s:∀j∈mW,j<B.length) (t:B'.length=B.length) (m:∀j,j∉g::mW->B'[j]?=B[j]?) (q:fl=.next\/fl=.cont):
  dz C b ⟨sc,loc,B,dp⟩ fl ⟨sc,loc,B',dp⟩:=by
 have:=dz.Ba hp n r (fun F Ω H=>Kf (h F Ω H) fun O k a b c d e=>⟨O,k,a,b,c,d,fun α f p=>by exact eL (aF ..) (e α f p)⟩) l l (fun _ h=>h) s t m q;rw [map_nil,aF] at this;exact this
end
section
theorem mr:(cV D bT tg++S)[D.length]?=some (.list (bT.map (Gi.av D.length (bZ D tg)))):=by
 refine eL (aJ (by refine eL cB ?_;exact cC 0x11FCD1AC900 tt)) ?_;refine eL (aI (ah _)) (eL (sub_self ..) ?_);rfl
theorem jr:(cV D bT tg++eI (bZ D tg) O)[bZ D tg+j]?=(O[j]?).map (AO.ed (iL (bZ D tg))):=by
 have:=wy (F:=cV D bT tg) (m:=bZ D tg) (O:=O) (i:=j);rw [cB] at this;exact this
theorem pB:cV D fb tg++S=(cV D bT tg++S).set D.length (.list (fb.map (Gi.av D.length (bZ D tg)))):=by
 refine eL (List.set_append_left _ _ (by refine eL cB ?_;exact cC 0x11FCD1AC900 tt)) ?_;refine eL (List.set_append_right _ _ (ah _)) (eL (sub_self ..) ?_);rfl
theorem Gp:cV D bT tg++eI (bZ D tg) (o'::O)=(cV D bT tg++eI (bZ D tg) (o::O)).set (bZ D tg) (o'.ed (iL (bZ D tg))):=by
 refine eL (List.set_append_right _ _ (eL cB (ah _))) (eL cB (eL (sub_self ..) ?_));rfl
def Ph(pre:List (Str×AV)):Prop:=pre.lookup ("got" : Str)=none/\pre.lookup ("token" : Str)=none/\pre.lookup ("reader" : Str)=none
theorem th(h:Ph pre)(g m t)(x):(put "token" (.obj t) (fS pre g m)).lookup x=(([("got",.obj g),("token",.obj t)]:List (Str×AV))++(pre++([("reader",.obj m)]:List (Str×AV)))).lookup x/\
  (put "token" (.obj t) (fS pre g m)).lookup x=(([("got",.obj g),("token",.obj t),("reader",.obj m)]:List (Str×AV))++pre).lookup x:=by
 refine eL (ef ..) (eL cy (eL cy (eL cy (eL cy ?_))));have c1:("got" : Str)≠"token":=by decide
 have c2:("reader" : Str)≠"token":=by decide
 have d:("reader" : Str)≠"got":=by decide
 by_cases a:x="token"
 .subst a;refine eL (if_pos rfl) ?_;constructor<;>rfl
 refine eL (if_neg a) ?_;by_cases c:x="got"
 .subst c;refine eL h.1 ?_;constructor<;>rfl
 simp only [aY,List.lookup_nil,(aN.mpr a),(aN.mpr c)];by_cases b:x="reader"
 .subst b;refine eL h.2.2 ?_;constructor<;>first|rfl|trivial
 refine eL (aN.mpr b) ?_;rcases pre.lookup x with⟨⟩<;>constructor<;>first|rfl|trivial
end
theorem MT(h:g≠t):∀i j,[g,t][i]?=some j->gV [g,t] j=some i:=fun i j e=>by
 rcases i with _|_|i
 ·(injection e with a;subst a);unfold gV;refine eL findIdx?_cons (eL (bk ..) ?_);rfl
 ·(injection e with a;subst a);unfold gV;refine eL findIdx?_cons (eL (aN.mpr h) (eL findIdx?_cons (eL (bk ..) ?_)));rfl
 .exact cX e
theorem VM(h:g≠t)(c:g≠u)(b:t≠u):∀i j,[g,t,u][i]?=some j->gV [g,t,u] j=some i:=fun i j e=>by
 rcases i with _|_|_|i
 ·(injection e with a;subst a);unfold gV;refine eL findIdx?_cons (eL (bk ..) ?_);rfl
 ·(injection e with a;subst a);unfold gV;refine eL findIdx?_cons (eL (aN.mpr h) (eL findIdx?_cons (eL (bk ..) ?_)));rfl
 ·(injection e with a;subst a);unfold gV;refine eL findIdx?_cons (eL (aN.mpr c) (eL findIdx?_cons (eL (aN.mpr b) (eL findIdx?_cons (eL (bk ..) ?_)))));rfl
 .exact cX e
theorem fB(h:a.length<=1000):kD (.vals a)=cp a:=by
 show(a.take 1000).map AV.top=_;refine eL (take_of_length_le h) ?_;rfl
theorem iG:St.sub θ (JQ P (cm α r) O)=(X2 P).su ((("got",.obj 0)::("token",.obj 1)::cm α r)) (ip θ O):=by
 show(⟨_,("got",.obj 0)::("token",.obj 1)::cY θ (cm α r),_,_⟩:St)=_;refine eL dC ?_;rfl
theorem Ag(P):(X2 P).y="token":=by kernel_rfl
abbrev BT(P:Params)(Z:Heap×Program×World)(pre:List (Str×AV))(D:List AO)(tg:List Tg)(bT fb:List Gi)(O a:List AO)(j:Nat):Prop:=ER (cx P Z) (X2 P) (fS pre D.length (bZ D tg)) (cV D bT tg) (cV D fb tg) O a j
abbrev QO(pre:List (Str×AV))(g m t:Nat):List (Str×AV):=put "token" (.obj t) (fS pre g m)
section
theorem BT.of(b:fl=.next\/fl=.cont)(h:dz (cx P Z) (X2 P).body ((X2 P).su (QO pre D.length (bZ D tg) (bZ D tg+j)) (cV D bT tg++eI (bZ D tg) O)) fl ((X2 P).su (QO pre D.length (bZ D tg) (bZ D tg+j)) (cV D fb tg++eI (bZ D tg) c))):BT P Z pre D tg bT fb O c j:=by
 refine dJ fl (QO pre D.length (bZ D tg) (bZ D tg+j)) ⟨b,(eL (Ag ..) (eL cB h)),fun x a=>?_⟩
 .rw [Ag] at a;exact Ey a _
noncomputable abbrev Xh:List (Str×AV):=[("got",.obj 0),("token",.obj 1)]
variable(G:Good (cx P Z))(hp:Ph pre)
include G hp
theorem GQ(f:O[j]?=some T)(hT:T.ed (iL (bZ D tg))=T)(d:∀a,T.ed a=T)(l:bT.map (Gi.av D.length (bZ D tg))=xs++ys)(i:fb.map (Gi.av D.length (bZ D tg))=xs++zs)(m:∀a,dE a ys=ys)(h:∀a,dE a zs=zs)(e:fl=.next\/fl=.cont)
  (t:∀(α:Str->Value) (b:List Value),b.length=xs.length->dz (cx P Z) (X2 P).body ((X2 P).su (Xh++cm α (pre++([("reader",.obj (bZ D tg))]:List (Str×AV)))) [.list (cp b++ys),T]) fl ((X2 P).su (Xh++cm α (pre++([("reader",.obj (bZ D tg))]:List (Str×AV)))) [.list (cp b++zs),T])):BT P Z pre D tg bT fb O O j:=by
 refine BT.of e ?_;have ne:D.length≠bZ D tg+j:=by exact ne_of_lt (dN 0x11FC2CD1AC900 tt)
 have e1:=mr (D:=D) (bT:=bT) (tg:=tg) (S:=eI (bZ D tg) O);have e2:=jr (D:=D) (bT:=bT) (tg:=tg) (O:=O) (j:=j);rw [f] at e2;have e2:=e2.trans (az some hT);refine eL (pB (bT:=bT) (fb:=fb)) (dz.JJ (MT ne) (eL (m ..) (eL (e1 ..) (eL (l ..) rfl))) (eL (h ..) (eL (getElem?_set_self ((au.mp e1).1) ..) (eL (i ..) rfl))) (fun F Ω H=>(dJ ([T]) ([T]) ⟨rfl,rfl,ku ?_,ku ?_,fun α b g=>t α b g⟩)) (fun x=>(th hp _ _ _ x).1) (fun k c=>?_) bH (fun k c=>?_) e)
 .exact eL (d ..) (H.rel.ob _ _ e2)
 .exact ⟨T,eL (bq ne ..) e2,eL (d ..) (fun _ _ _ _ r=>r)⟩
 .obtain rfl:=aB.mp c;exact(au.mp e2).1
 .exact bq fun q=>c (by exact eR q (.head _))
theorem Lj(g:ty∈([1,2]:List Int))(h:O[j]?=some (eZ ty (tx b)))(f:d.length<=1000)(hb:(a++b).length<=big):BT P Z pre D tg (d++[.tx a]) (d++[.tx (a++b)]) O O j:=by
 refine GQ G hp h rfl (fun _=>rfl) aO aO (fun _=>rfl) (fun _=>rfl) (.inr rfl) fun α c e=>?_;rw [aj] at e
 have z:=dY G (gK (L:=[.vals c,tx a,tx b,int a.length,tx (a++b)]) rfl (bP kY (bP (fX hb) bR)) bU) (bz.mp (Mm P (cm α (pre++([("reader",.obj (bZ D tg))]:List (Str×AV))))) ty g);rw [iG,iG] at z;have r:∀x:AV,ip (cT [.vals c,tx a,tx b,int a.length,tx (a++b)]) [.fK [] 0 [x],eZ ty (.sym 2)]=[.list (cp c++[x.sub (cT [.vals c,tx a,tx b,int a.length,tx (a++b)])]),eZ ty (tx b)]:=fun x=>by
  show[AO.list ([]++(kD (.vals c)++_)),_]=_;refine eL (fB (cC 0x10F8BEB3B816F014F8BEB3B80 tt f e)) ?_;rfl
 rw [r,r] at z;exact z
end
theorem kC:∀ {ns} {α},cE b (lC ns α)=lC ns α:=by
 intro ns;induction ns with
 |nil=>
  intro _;exact rfl
 |cons n r a=>
  intro α;exact az (List.cons (n,AV.top (α 0))) a
theorem oR:∀ {ns} {α},cY θ (lC ns α)=lC ns α:=by
 intro ns;induction ns with
 |nil=>
  intro _;exact rfl
 |cons n r a=>
  intro α;exact az (List.cons (n,AV.top (α 0))) a
theorem Aa:∀ {as} {ns},mD as ns=true->as.map (·.1)=ns:=by
 intro as;induction as with
 |nil=>
  intro ns h;cases ns with|nil=>rfl|cons _ _=>exact(aA h).elim
 |cons p r a=>
  intro ns h;rcases ns with _|⟨n,ns⟩
  .exact (aA h).elim
  .have h:=ab.mp h;show p.1::r.map (·.1)=n::ns;exact eL (aC.mp h.1) (eL (a h.2) rfl)
section
noncomputable abbrev RL(m:Nat):List (Str×AV):=[("reader",.obj m)]
variable(G:Good (cx P Z))(hp:Ph pre)
include G hp
theorem JF(a:ty∈([1,2]:List Int))(c:O[j]?=some (eZ ty (tx b))):BT P Z pre D tg [] [.tx b] O O j:=by
 refine GQ (xs:=[]) (ys:=[]) (zs:=[.lf (tx b)]) (fl:=.cont) G hp c rfl (fun _=>rfl) rfl rfl (fun _=>rfl) (fun _=>rfl) (.inr rfl) fun α e d=>?_;obtain rfl:=bI.mp d
 have z:=dY G (gK (L:=[.none,.none,tx b]) rfl bR bU) (bz.mp (Mc P (cm α (pre++RL (bZ D tg)))) ty a);rw [iG,iG] at z;exact z
theorem Pf(n:ty∈([1,2]:List Int))(o:O[j]?=some (eZ ty (tx b)))(t:O[c]?=some (.dict es))(v:j≠c)(w:a.length<=1000):BT P Z pre D tg (a++[.cu c]) (a++[.cu c,.tx b]) O O j:=by
 refine BT.of (.inr rfl) ?_;have h:D.length≠bZ D tg+j:=by exact ne_of_lt (dN 0x11FC2CD1AC900 tt)
 have l:D.length≠bZ D tg+c:=by exact ne_of_lt (dN 0x11FC2CD1AC900 tt)
 have u:bZ D tg+j≠bZ D tg+c:=by exact fun z=>v (Nat.add_left_cancel z)
 have e1:=mr (D:=D) (bT:=a++[.cu c]) (tg:=tg) (S:=eI (bZ D tg) O);have e2:=jr (D:=D) (bT:=a++[.cu c]) (tg:=tg) (O:=O) (j:=j);have g:=jr (D:=D) (bT:=a++[.cu c]) (tg:=tg) (O:=O) (j:=c);rw [o] at e2;rw [t] at g;have e2:=e2;have s:=(au.mp e1).1;refine eL (pB (bT:=a++[Gi.cu c]) (fb:=a++[Gi.cu c,Gi.tx b])) (dz.JJ (VM h l u) (xs:=a.map (Gi.av D.length (bZ D tg))) (ys:=[.obj 2]) (zs:=[.obj 2,.lf (tx b)]) (nd:=Xh) ?_ ?_ (fun F Ω H=>?_) (fun x=>(th hp _ _ _ x).1) (fun k f=>?_) bH (fun k f=>(bq fun q=>f (by exact eR q (.head _)))) (.inr rfl))
 .refine eL e1 (eL aO ?_);rfl
 .refine eL (getElem?_set_self s) (eL aO ?_);rfl
 .refine bW (jc (fun _=>true) (H.rel.ob _ _ g)) fun d m i=>?_;rw [lX (α:=d)] at m i
  generalize (cE (iL (bZ D tg)) es).map (·.1)=ns at m i;refine dJ ([eZ ty (tx b),.dict (lC ns d)]) ([eZ ty (tx b),.dict (lC ns d)]) ⟨rfl,rfl,two_at (H.rel.ob _ _ e2) ?_,two_at ⟨_,eL (bq h) e2,fun _ _ _ _ r=>r⟩ ?_,fun α e p=>?_⟩
  .show gz _ _ _ _ (.dict (cE _ _));exact eL kC m
  .refine ⟨_,eL (bq l) g,?_⟩;show Bp _ _ _ (.dict (cE _ _));exact eL kC i
  .rw [aj] at p;have z:=dY G (gK (L:=[.vals e,.none,tx b]) rfl bR bU) (bz.mp (RI P (cm α (pre++RL (bZ D tg))) (lC ns d)) ty n);rw [iG,iG] at z;have r:∀x,ip (cT [.vals e,.none,tx b]) [.fK [] 0 x,eZ ty (.sym 2),.dict (lC ns d)]=[.list (cp e++subs (cT [.vals e,.none,tx b]) x),eZ ty (tx b),.dict (lC ns d)]:=fun x=>by
    show[AO.list ([]++(kD (.vals e)++_)),_,AO.dict (cY _ (lC _ _))]=_;refine eL (fB (cC 0x10F8BEB3B816F014F8BEB3B80 tt w p)) (eL oR ?_);rfl
   rw [r,r] at z;exact z
 .clear s e1 u l h n o t v w;rcases aU.mp f with rfl|f
  .exact (au.mp e2).1
  .clear e2;obtain rfl:=aB.mp f;exact(au.mp g).1
theorem Fe(f:O[j]?=some (gp (tx nm) i))(h:bT.length<=1000):BT P Z pre D tg bT (bT++[.cu j]) O O j:=by
 refine BT.of (.inl rfl) ?_;have d:D.length≠bZ D tg+j:=by exact ne_of_lt (dN 0x11FC2CD1AC900 tt)
 have e1:=mr (D:=D) (bT:=bT) (tg:=tg) (S:=eI (bZ D tg) O);have e2:=jr (D:=D) (bT:=bT) (tg:=tg) (O:=O) (j:=j);rw [f] at e2;refine eL (pB (bT:=bT) (fb:=bT++[Gi.cu j])) (dz.JJ (MT d) (xs:=bT.map (Gi.av D.length (bZ D tg))) (ys:=[]) (zs:=[.obj 1]) (nd:=Xh) (eL e1 (eL (rfl:dE _ []=[]) (eL (aF ..) rfl))) ?_ (fun F Ω H=>?_) (fun x=>(th hp _ _ _ x).1) (fun k c=>?_) bH (fun k c=>(bq fun q=>c (by exact eR q (.head _)))) (.inl rfl))
 .refine eL (getElem?_set_self ((au.mp e1).1)) (eL aO ?_);rfl
 .refine bW (jc (fun n=>n=="data") (H.rel.ob _ _ e2)) fun a l g=>(dJ ([SM (tx nm) (a 2)]) ([SM (tx nm) (a 2)]) ⟨rfl,rfl,ku l,ku ⟨_,eL (bq d) e2,g⟩,fun α b e=>?_⟩)
  .rw [aj] at e;have z:=dY G (gK (L:=[.vals b,tx nm]) rfl bR bU) (Pk P (cm α (pre++RL (bZ D tg))) (a 2));rw [iG,iG] at z;have r:∀x,ip (cT [.vals b,tx nm]) [.fK [] 0 x,SM (.sym 1) (a 2)]=[.list (cp b++subs (cT [.vals b,tx nm]) x),SM (tx nm) (a 2)]:=fun x=>by
    show[AO.list ([]++(kD (.vals b)++_)),_]=_;refine eL (fB (cC 0x10F8BEB3B816F014F8BEB3B80 tt h e)) ?_;rfl
   rw [r,r] at z;exact z
 .obtain rfl:=aB.mp c;exact(au.mp e2).1
end
theorem wx:∀ {l},cE a (put k v l)=put k (v.ed a) (cE a l):=by
 intro l;induction l with
 |nil=>
  exact rfl
 |cons p r b=>
  show cE a (if p.1==k then(p.1,v)::r else p::put k v r)=(if p.1==k then(p.1,v.ed a)::cE a r else(p.1,p.2.ed a)::put k (v.ed a) (cE a r));rcases p.1==k with _|_
  .exact az (List.cons (p.1,p.2.ed a)) b
  .rfl
theorem Ap{rd:List (Str×AV)}:St.sub θ (Zr P (cm α r) rd O)=(X2 P).su ((("got",.obj 0)::("token",.obj 1)::("reader",.obj 2)::cm α r)) (ip θ (O++[.inst 755 rd])):=by
 show(⟨_,("got",.obj 0)::("token",.obj 1)::("reader",.obj 2)::cY θ (cm α r),_,_⟩:St)=_;refine eL dC ?_;rfl
section
variable{st:Addr}
theorem VP(G:Good (cx P Z))(hp:Ph pre)(v:(nm,st)∈names)(f:(mD as HX||mD as (HX++(["temporaryBuffer"]:List Str)))=true)(p:(AO.inst 755 as::r)[j]?=some (gD (tx nm) i))(B:bT.length<=1000):BT P Z pre D tg bT (bT++[.cu j]) (.inst 755 as::r) (kX (some st) (.inst 755 as::r)) j:=by
 have f:as.map (·.1)∈PU:=by
  rcases(Bool.or_eq_true _ _).mp f with h|h
  .exact eL (Aa h) (.head _)
  .exact eL (Aa h) (.tail _ (.head _))
 have C:j≠0:=fun z=>by subst z;cases p
 refine BT.of (.inl rfl) ?_;have l:D.length≠bZ D tg+j:=by exact ne_of_lt (dN 0x11FC2CD1AC900 tt)
 have t:D.length≠bZ D tg:=by exact ne_of_lt (cC 0x11FCD1AC900 tt)
 have s:bZ D tg+j≠bZ D tg:=by exact bC (cC 0x11FC0115F08 tt (pos_of_ne_zero C))
 have e1:=mr (D:=D) (bT:=bT) (tg:=tg) (S:=eI (bZ D tg) (.inst 755 as::r));have e2:=jr (D:=D) (bT:=bT) (tg:=tg) (O:=.inst 755 as::r) (j:=j);have u:=jr (D:=D) (bT:=bT) (tg:=tg) (O:=.inst 755 as::r) (j:=0);rw [p] at e2;have m:=(au.mp u).1;refine eL (Gp (o:=.inst 755 as) (o':=AO.inst 755 (put "state" (.cv st (.obj 0)) as))) (eL (pB (bT:=bT) (fb:=bT++[Gi.cu j])) (dz.JJ (VM l t s) (xs:=bT.map (Gi.av D.length (bZ D tg))) (ys:=[]) (zs:=[.obj 1]) (nd:=[("got",.obj 0),("token",.obj 1),("reader",.obj 2)]) (eL e1 (eL (rfl:dE _ []=[]) (eL (aF ..) rfl))) ?_ (fun F Ω H=>?_) (fun x=>(th hp _ _ _ x).2) (fun k b=>?_) (eL bH (eL bH rfl)) (fun k b=>?_) (.inl rfl)))
 .refine eL (bq t.symm) (eL (getElem?_set_self ((au.mp e1).1)) (eL aO ?_));rfl
 .refine bW (jc (fun n=>n=="data") (H.rel.ob _ _ e2)) fun c E A=>(bW (BV (H.rel.ob _ _ u)) fun e g d=>?_)
  have d:=d "state" (.cv st (.obj (bZ D tg)));have en:(cE (iL (bZ D tg)) as).map (·.1)=as.map (·.1):=by refine eL bh ?_;rfl
  rw [en] at g d;generalize as.map (·.1)=ns at f g d;refine dJ ([stH (tx nm) (c 2),.inst 755 (lC ns e)]) ([stH (tx nm) (c 2),.inst 755 (put "state" (.cv st (.obj 2)) (lC ns e))]) ⟨rfl,rfl,two_at E ?_,two_at ⟨_,eL (bq s.symm) (eL (bq l) e2),A⟩ ?_,fun α a y=>?_⟩
  .show gz _ _ _ _ (.inst 755 (cE _ (lC ns e)));exact eL kC g
  .refine ⟨_,getElem?_set_self (eL bH m),?_⟩;show Bp _ _ (.inst 755 (cE _ (put _ _ as))) (.inst 755 (cE _ (put _ _ (lC ns e))));exact eL wx (eL wx (eL kC d))
  .have z:=dY G (gK (L:=[.vals a]) rfl bR bU) (bz.mp (bz.mp (UU P (cm α pre) (c 2) e) (nm,st) v) ns f);rw [Ap,Ap] at z;have r:∀x w,cY (cT [.vals a]) w=w->ip (cT [.vals a]) ([.fK [] 0 x,stH (tx nm) (c 2)]++[.inst 755 w])=[.list (cp a++subs (cT [.vals a]) x),stH (tx nm) (c 2),.inst 755 w]:=fun x w hw=>by
    show[AO.list ([]++(kD (.vals a)++_)),_,AO.inst 755 (cY _ w)]=_;refine eL (fB (cC 0x10F8BEB3B816F014F8BEB3B80 tt B (eR (aj ..) y))) (eL hw ?_);rfl
   rw [r _ _ oR,r _ _ (by refine eL (yW ..) (eL oR ?_);rfl)] at z;exact z
 .rcases aU.mp b with rfl|b
  .exact (au.mp e2).1
  .cases aB.mp b;exact m
 .rw [bq fun q=>b (by exact eR q (.tail _ (.tail _ (.head _))))];exact bq fun q=>b (by exact eR q (.head _))
end
noncomputable def Sx.fld(S:Sx)(k:Nat):bQ:=match k with
 |1=>S.place
 |2=>S.chunk
 |3=>S.size
 |4=>S.off
 |5=>S.pl
 |6=>S.pc
 |_=>S.buf
def oz(raw:bQ)(Ss:List Sx)(xs:List bQ)(k:Nat):bQ:=bif k==0 then raw else bif k%8==0 then(xs[k/8-1]?).getD .none else dg (Ss[k/8]?) (fun S=>S.fld (k%8)) .none
def Sx.lit(S:Sx):Prop:=∀k,isLit (S.fld k)=true
def iW.sub(θ:Nat->bQ)(c:iW):iW:=match c with
 |.no=>.no
 |.st nm=>.st (nm.sub θ)
 |.sd nm=>.sd (nm.sub θ)
 |.en nm=>.en (nm.sub θ)
noncomputable def dS(bT:List Gi)(w:List Nat):List Gi:=match bT.getLast? with
 |some (.tx a)=>bT.dropLast++[.tx (a++w)]
 |_=>bT++[.tx w]
section
variable{st:Addr}
theorem v_lit(hr:isLit raw=true)(b:∀S∈Ss,S.lit)(a:xs.all isLit=true)(k):isLit (oz raw Ss xs k)=true:=by
 unfold oz;rcases k==0 with _|_
 .cases k%8==0 with
  |true=>
   show isLit ((xs[k/8-1]?).getD .none)=true;cases e:xs[k/8-1]? with
   |none=>rfl
   |some l=>exact ak.mp a l (aR e)
  |false=>
   show isLit (dg (Ss[k/8]?) _ _)=true;cases e:Ss[k/8]? with
   |none=>rfl
   |some S=>exact b S (aR e) _
 .exact hr
theorem ir(h:Ss[i]?=some S)(hr:S.raw=raw):(cq i).sub (oz raw Ss xs)=S:=by
 have k:∀j,0<j->j<8->oz raw Ss xs (8*i+j)=S.fld j:=fun j a b=>by
  unfold oz;refine eL (aN.mpr (bC (cC 0x11FC0D18B885F08 tt a)):(8*i+j==0)=false) (eL (aN.mpr (eL (Nat.mul_add_mod ..) (eL (Nat.mod_eq_of_lt b ..) (bC a))):((8*i+j)%8==0)=false) (eL (show(8*i+j)/8=i by refine eL (Nat.mul_add_div (by decide) ..) (eL (Nat.div_eq_of_lt b ..) ?_);rfl) (eL (show(8*i+j)%8=j from(Nat.mul_add_mod ..).trans (Nat.mod_eq_of_lt b)) (eL h ?_))));rfl
 show Sx.mk (oz raw Ss xs 0) (oz raw Ss xs (8*i+1)) (oz raw Ss xs (8*i+2)) (oz raw Ss xs (8*i+3)) (oz raw Ss xs (8*i+4)) (oz raw Ss xs (8*i+5)) (oz raw Ss xs (8*i+6)) (oz raw Ss xs (8*i+7))=S;refine eL (k 1 (by decide) (by decide)) (eL (k 2 (by decide) (by decide)) (eL (k 3 (by decide) (by decide)) (eL (k 4 (by decide) (by decide)) (eL (k 5 (by decide) (by decide)) (eL (k 6 (by decide) (by decide)) (eL (k 7 (by decide) (by decide)) (eL (show oz raw Ss xs 0=S.raw from hr.symm) ?_)))))));rfl
theorem fj:ip θ (cO st c a g)=cO st (c.sub θ) (a.map (bQ.sub θ)) (g.sub θ):=by
 rcases c with⟨⟩<;>rcases a with⟨⟩<;>rfl
theorem At.lit{raw:List Nat}(h:At raw T o S):S.lit/\S.raw=tx raw:=by
 refine TF h ?_;clear h;intro dn ck n k d c a b _;subst a;refine⟨fun k=>?_,rfl⟩;rcases k with _|_|_|_|_|_|_|k<;>first|rfl|exact b.lit
variable{P:Params}{Z:Heap×Program×World}{Φ:List Fact}{S':Sx}{j d:Nat}{l:bQ}{T:List Nat}
theorem Gm(e:∀k,isLit (θ k)=true)(a:(cq i).sub θ=S)(c:(cq j).sub θ=S')(b:l.sub θ=r)(t:cG (cx P Z) (bodyOf (KF P) 126) (OJ P S d) (.ret (.lf r)) (cz 0 S')):fR ((cx P Z).sy θ Φ) (n5 1 (cq i) (cq j) l d):=
 eO e rfl rfl (by show(⟨_,nT [],cz 0 ((cq i).sub θ),d⟩:St)=_;refine eL a ?_;rfl) (by show Fl.ret (.lf (l.sub θ))=_;exact eL b rfl) (by show cz 0 ((cq j).sub θ)=_;exact eL c rfl) t
theorem yj(e:∀k,isLit (θ k)=true)(a:(cq i).sub θ=S)(c:(cq j).sub θ=S')(b:l.sub θ=r)(t:cG (cx P Z) (bodyOf (KF P) 156) (dh P 156 (nT [("char",.lf r)]) (cz 0 S) d) .next (cz 0 S')):fR ((cx P Z).sy θ Φ) (zG 1 (cq i) (cq j) l d):=
 eO e rfl rfl (by show(⟨_,nT [("char",.lf (l.sub θ))],cz 0 ((cq i).sub θ),d⟩:St)=_;refine eL a (eL b ?_);rfl) rfl (by show cz 0 ((cq j).sub θ)=_;exact eL c rfl) t
theorem QE(b:k∈oD)(f:∀k,isLit (θ k)=true)(a:(cq i).sub θ=S)(e:(cq j).sub θ=S')(c:l.sub θ=r)(t:cG (cx P Z) (bodyOf (KF P) 149) (dh P 149 (yq k) (cz 0 S) d) (.ret (.lf r)) (cz 0 S')):fR ((cx P Z).sy θ Φ) (SX 1 (cq i) (cq j) k.cs k.xy l d):=
 eO f rfl rfl (by show(⟨_,[("opposite",.lf (.bool k.xy)),("characters",k.cs.sub θ),("self",.obj 0)],cz 0 ((cq i).sub θ),d⟩:St)=_;refine eL a (eL (Hw b) ?_);rfl) (by show Fl.ret (.lf (l.sub θ))=_;exact eL c rfl) (by show cz 0 ((cq j).sub θ)=_;exact eL e rfl) t
end
structure gm(c:iW)(tg:List Tg)(bT:List Gi):Prop where
 ok:∀x∈bT,x.ok tg.length (stays c).length
 len:bT.length<=900
 last:∀x,bT.getLast?=some x->(∃a,x=.tx a)\/(x=.cu 7/\(stays c).length=9)
 Tb:∀i,Gi.cu i∈bT->i=7
theorem pR:dS (bT++[.tx a]) w=bT++[.tx (a++w)]:=by
 unfold dS;exact eL aX (eL dropLast_concat rfl)
theorem Gy:dS (bT++[.cu c]) w=bT++[.cu c,.tx w]:=by
 unfold dS;exact eL aX (aw ..)
theorem Ln{x:Gi}(h:x.ok q (stays c).length):x.re (stays c)=x:=by
 rcases x with _|_|k
 .rfl
 .rfl
 .have h:=h;show Gi.cu (((stays c)[k]?).getD k)=.cu k;have l:(stays c).length=7\/(stays c).length=9:=by rcases c with⟨⟩<;>first|exact .inl rfl|exact .inr rfl
  have e:stays c=List.range (stays c).length:=by rcases c with⟨⟩<;>rfl
  rw [e] at h ⊢;exact eL (ao h) (az Gi.cu (List.getElem_range h))
theorem tE{bT:List Gi}(h:∀x∈bT,x.ok q (stays c).length):bT.map (Gi.re (stays c))=bT:=(bG fun x a=>Ln (h x a)).trans (map_id _)
section
noncomputable def A2:List Nat:=[10,32,33,34,35,38,45,47,51,56,59,60,61,62,65,67,69,73,76,77,78,80,82,83,84,88,89,97,99,101,105,108,109,110,112,114,115,116,120,121,233]
structure Wk(P:Params) where
 Z:Heap×Program×World
 Fin:List (Str×AV)->List AO->Prop
 pre:List (Str×AV)
 D:List AO
 raw:List Nat
 T:List Nat
 G:Good (cx P Z)
 R:mP raw
 hT:T.length<=10000
 g9:∀c∈T,c∈A2
 hD:∀o∈D,o.gk D.length=true
 hb:(X2 P).nb<=D.length
 hpre:mO D.length pre=true
 hp:Ph pre
variable(W:Wk P)
abbrev Wk.mM:W.T.length<=big:=ag W.hT (by decide)
abbrev Wk.lb(k:Nat)(bT:List Gi)(tg:List Tg)(O:List AO):Prop:=LB (cx P W.Z) (X2 P) W.Fin k false (fS W.pre W.D.length (bZ W.D tg)) (cV W.D bT tg) O
def Go(st:Addr)(c:iW)(t:Option bQ)(bT:List Gi)(tg:List Tg)(o:Nat):Prop:=∀S,At W.raw W.T o S->∃k,W.lb k bT tg (cO st c t S)
section
variable{W}{k0:Nat}{st:Addr}
theorem gf:stays (c.sub θ)=stays c:=by rcases c with⟨⟩<;>rfl
theorem Dh:(stays c)[0]?=some 0:=by rcases c with⟨⟩<;>rfl
theorem Qw:(∃a,dS bT w=bT.dropLast++[.tx (a++w)])\/dS bT w=bT++[.tx w]:=by
 unfold dS;rcases bT.getLast? with _|(a|i|i)<;>first|exact .inr rfl|exact .inl ⟨a,rfl⟩
theorem pQ(h:∀x∈bT,x.ok q v):∀x∈dS bT w,x.ok q v:=fun x c=>by
 rcases Qw with⟨a,e⟩|e
 .rw [e] at c;rcases bg.mp c with b|b
  .exact h x (List.dropLast_subset bT b)
  .exact eL (aB.mp b) trivial
 .rw [e] at c;rcases bg.mp c with b|b
  .exact h x b
  .exact eL (aB.mp b) trivial
theorem A6(h:(stays c).length=9):∃es,2<es.length/\(cO st c t S)[7]?=some (.dict es):=by
 induction c with
 |no=>cases h
 |_=>exact⟨_,by exact succ_lt_succ (succ_lt_succ (succ_pos _)),rfl⟩
theorem mV(u:Sy (cx P W.Z) θ Φ Es)(e:Y P Φ Es n (cO st c0 t0 (cq 0)) (eZ ty x) none (stays c0) (cO p c0 t1 (cq k0))=true)(f:ty∈([1,2]:List Int))(r:x.sub θ=tx w)(C:c0.sub θ=c)(l:t0.map (bQ.sub θ)=t)(s:t1.map (bQ.sub θ)=L)(m:(cq 0).sub θ=S)(v:(cq k0).sub θ=B)
  (I:gm c tg bT) (N:∀a,bT.getLast?=some (.tx a)->(a++w).length<=big) (h:W.lb k (dS bT w) tg (cO p c L B)):W.lb (k+1) bT tg (cO st c t S):=by
 subst C;have g:=gf▸I.ok;have z:=ug (F:=cV W.D bT tg) W.G u e Dh W.hD W.hb W.hpre (pQ g) cB (fun d j b _ hr hit=>?_) (eL fj (eL s (eL v h)))
 .exact eR m (eR l (eR fj z))
 .have b:d[j]?=some (eZ ty (tx w)):=r▸b;refine eL (tE (pQ g)) ?_;show BT P W.Z W.pre W.D tg bT (dS bT w) d d j;clear hr g u e r l s m v;rcases eq_nil_or_concat bT with rfl|⟨H,y,rfl⟩
  .exact JF W.G W.hp f b
  .rw [concat_eq_append] at *;have A:H.length<=1000:=by have:=I.len;rw [aa] at this;exact cC 0x10F8BEB3B804F4B8B3B8C10 tt this
   rcases I.last y aX with⟨a,rfl⟩|⟨rfl,i⟩
   .exact eL pR (Lj W.G W.hp f b A (N a aX))
   .refine eL Gy ?_;rw [gf] at i;refine bW (A6 (st:=p) (t:=t1) (S:=cq k0) i) fun es J M=>?_;have E:(stays c0)[7]?=some 7:=by rcases c0 with⟨⟩<;>first|rfl|cases i
    have hit:=hit.obj 7 7 ((AO.dict es).sub θ) E (by refine eL aH (eL M ?_);rfl);have hit:d[7]?=some (.dict (cE _ (cY θ es))):=hit;refine Pf W.G W.hp f b hit (fun q=>?_) A;rw [q,hit] at b;have q:=az (fun o=>match o with|some (.dict es)=>es.length|_=>0) b;have q:(cE _ (cY θ es)).length=2:=q;unfold cE cY at q;rw [aj,aj] at q;exact gC 0x15F0A6FA0 tt q J
theorem wU(m:Sy (cx P W.Z) θ Φ Es)(e:Q P Φ Es n (cO st c0 t0 (cq 0)) (stays c0) (cO q c1 t1 (cq k0))=true)(f:(stays c1).length=(stays c0).length)(r:c0.sub θ=c)(j:c1.sub θ=b)(d:t0.map (bQ.sub θ)=t)(l:t1.map (bQ.sub θ)=o)(g:(cq 0).sub θ=S)(p:(cq k0).sub θ=i)
  (I:∀x∈bT,x.ok tg.length (stays c).length) (h:W.lb k bT tg (cO q b o i)):W.lb k bT tg (cO st c t S):=by
 clear f;subst r;have a:=gf▸I;exact eR g (eR d (eR fj (xY W.G m e Dh W.hD W.hb W.hpre a (tE a).symm (eL fj (eL l (eL p (eL j h)))))))
end
end
section
section
variable{l:List Nat}
theorem qy(h:x.sub θ=ch a)(c:a∉l):Facts θ (Ik x l):=by
 refine bP (by show ew .FV [x.sub θ]=_;refine eL h ?_;rfl) (bP (by show ew .eq [x.sub θ,.none]=_;refine eL h ?_;rfl) fun f b=>?_);refine bW (mem_flatMap.mp b) fun d hd b=>?_;have ne:a≠d:=fun z=>c (z▸hd)
 have b:=b;rcases aU.mp b with rfl|b
 .show ew .eq [x.sub θ,ch d]=_;exact eL h (jN ne)
 rcases aU.mp b with rfl|b
 .show ew .eq [ch d,x.sub θ]=_;exact eL h (jN ne.symm)
 .obtain rfl:=aB.mp b;show ew .Na [x.sub θ,tx [d]]=_;refine eL h (eL Nf (eL (bx (by simpa using ne)) ?_));rfl
theorem RQ:∀l:List Nat,oJ (ch a) (l.map ch)=some (l.contains a):=by
 intro l;induction l with
 |nil=>
  exact rfl
 |cons b l f=>
  have e:CO (ch b) (ch a)=some (a==b):=by
   by_cases q:a=b
   .subst q;have:=Du (a:=[a]);refine eL (bk ..) ?_;show some ((⟨#[a]⟩:Str)==⟨#[a]⟩)=_;exact eL (bk ..) rfl
   .have z:(⟨#[b]⟩:Str)≠⟨#[a]⟩:=fun e=>q (by cases e;rfl)
    refine eL (aN.mpr q) ?_;show some ((⟨#[b]⟩:Str)==⟨#[a]⟩)=_;exact eL (aN.mpr z) rfl
  show(CO (ch b) (ch a)).bind (fun c=>(oJ (ch a) (l.map ch)).map fun d=>c||d)=_;refine eL e (eL f (eL List.contains_cons ?_));rfl
theorem VZ:ew .mem (ch a::l.map ch)=some (.bool (l.contains a)):=by
 show(oJ (ch a) (l.map ch)).map bQ.bool=_;refine eL (RQ ..) ?_;rfl
theorem yi(h:x.sub θ=ch a)(hb:l.contains a=b):FT θ ⟨.mem,x::l.map ch,.bool b⟩:=by
 show ew .mem (x.sub θ::(l.map ch).map (bQ.sub θ))=_;refine eL h (eL bh (eL (show(bQ.sub θ∘ch)=ch from funext fun _=>rfl) (eL VZ (eL hb ?_))));rfl
theorem Nk(h:x.sub θ=ch a){p q:Bool}(b:gS.contains a=p)(d:jY.contains a=q)(c:a∉l):Facts θ (Yf x p q l):=bP (yi h b) (bP (yi h d) (qy h c))
end
variable{W:Wk P}
section
variable{st:Addr}
def CY(W:Wk P)(Ss:List Sx):Prop:=∀S∈Ss,S.lit/\S.raw=tx W.raw
theorem Bk:CY W []:=fun _ h=>iS h
theorem jX(h:At W.raw W.T o S)(t:CY W Ss):CY W (S::Ss):=fun b a=>(aU.mp a).elim (fun e=>e▸h.lit) (t b)
theorem Vx(h:At W.raw W.T o S)(e:W.T.drop o=a::r)(hd:22<=d):∃b,SS W.raw W.T o b a/\At W.raw W.T (o+1) b/\W.T.drop (o+1)=r/\cG (cx P W.Z) (bodyOf (KF P) 126) (OJ P S d) (.ret (.lf (ch a))) (cz 0 b):=by
 have q:W.T[o]?=some a:=by refine eR List.head?_drop (eL e ?_);rfl
 exact bW ((Wm W.G W.R W.mM h hd).1 a q) fun b c f=>⟨b,c,c.at,by refine eR br (eL e ?_);rfl,f⟩
theorem Bo(c:CY W Ss)(a:xs.all isLit=true)(d:Facts (oz (tx W.raw) Ss xs) Φ)(b:(∀k,isLit (oz (tx W.raw) Ss xs k)=true)->dT ((cx P W.Z).sy (oz (tx W.raw) Ss xs) Φ) Es):Sy (cx P W.Z) (oz (tx W.raw) Ss xs) Φ Es:=
 have q:=v_lit rfl (fun S h=>(c S h).1) a
 ⟨q,d,b q⟩
def Cf(W:Wk P)(c0:iW)(a:Option bQ)(b nm:bQ)(c:iW)(t:Option bQ):Prop:=(isLit b=true/\isLit nm=true)/\∀Ss xs,c0.sub (oz (tx W.raw) Ss (b::nm::xs))=c/\a.map (bQ.sub (oz (tx W.raw) Ss (b::nm::xs)))=t
theorem Cf.lits(h:Cf W c0 t0 b nm c t){r:List bQ}(hr:r.all isLit=true):(b::nm::r).all isLit=true:=by
 show(isLit b&&(isLit nm&&r.all isLit))=true;refine eL h.1.1 (eL h.1.2 (eL hr ?_));rfl
def Sz(bT:List Gi)(o:Nat):Prop:=∀a,bT.getLast?=some (.tx a)->a.length<=o
theorem Sz.mM(z:Sz bT o)(h:o+n<=W.T.length)(hw:w.length<=n):∀a,bT.getLast?=some (.tx a)->(a++w).length<=big:=fun a b=>
 eL aa (ag (add_le_add (z a b) hw) (ag h (ag W.hT (by decide))))
theorem eT(h:W.T.drop o=l)(a:l≠[]):o+l.length=W.T.length:=by
 have e:W.T.length-o=l.length:=by have:=az length h;rwa [bw] at this
 exact(az (o + ·) e.symm).trans (Nat.add_sub_of_le (le_of_lt (Nat.lt_of_sub_ne_zero fun z=>a (bI.mp (e.symm.trans z)))))
theorem pD{K:rS}{Zm:List Fact}{x0:bQ}{p:Int}(C:Cf W c0 t0 b nm c t)(E:K∈oD)(J:p∈([1,2]:List Int))(e:Y P (Zm++[⟨.add,[x0,.sym 24],.sym 32⟩]) (iE 1 35 [x0] 0++[SX 1 (cq 1) (cq 2) K.cs K.xy (.sym 24) 35]) 0 (cO st c0 t0 (cq 0)) (eZ p (.sym 32)) none (stays c0) (cO st c0 t0 (cq 2))=true)
  (L:∀θ:Nat->bQ,θ 40=ch a->Facts θ Zm/\x0.sub θ=ch a) (I:gm c tg bT) (z:Sz bT o) (hd:W.T.drop o=a::(w++rest)) (hw:∀x∈w,sv K x=true) (M:∀x r,rest=x::r->sv K x=false)
  (h:Go W st c t (dS bT (a::w)) tg (o+1+w.length)):Go W st c t bT tg o:=fun S u=>by
 refine dW (Vx (d:=35) u hd (by decide)) fun j _ D V X=>(bW (ZD W.G W.R W.mM (k:=K) E D V hw M (d:=35) (by decide)) fun g v H=>(cN (h g v) fun k U=>?_))
 have m:=eT hd (aZ _ _);rw [ay,aa] at m;have O:=jX u (jX D (jX v Bk));have l:=C.2 [S,j,g] [tx w,tx (a::w),ch a];have B:=ir (i:=0) (xs:=b::nm::[tx w,tx (a::w),ch a]) (Ss:=[S,j,g]) rfl (O S (.head _)).2;have A:=ir (i:=1) (xs:=b::nm::[tx w,tx (a::w),ch a]) (Ss:=[S,j,g]) rfl (O j (.tail _ (.head _))).2;have q:=ir (i:=2) (xs:=b::nm::[tx w,tx (a::w),ch a]) (Ss:=[S,j,g]) rfl (O g (.tail _ (.tail _ (.head _)))).2;have lb:([a]++w).length<=big:=by have:=W.hT;show w.length+1<=1000000;exact kF 0x10F0B4B2B4BFB8C926F0CC9C3214F0B1B7BA0 tt this m
 refine bY (L (oz (tx W.raw) [S,j,g] (b::nm::[tx w,tx (a::w),ch a])) rfl) fun F y=>?_;have N:=Bo (W:=W) (Es:=iE 1 35 [x0] 0++[SX 1 (cq 1) (cq 2) K.cs K.xy (.sym 24) 35]) O (C.lits rfl) (dI F (bP (f:=⟨.add,[x0,.sym 24],.sym 32⟩) (by
   show ew .add [x0.sub _,_]=_;exact eL y (fX lb)) bR)) fun s=>cg (Gm s B A y X) (cg (QE E s A q rfl H) bU)
 exact⟨k+1,mV (k0:=2) N e J rfl l.1 l.2 l.2 B q I (z.mM (W:=W) (n:=w.length+1) (kF 0x10F3CC9106F3CC9C210 tt m) (ah _)) U⟩
def Kd:rS:=⟨uC,nr uC,false⟩
def Ks:rS:=⟨jY,.top (.ref 15),true⟩
def Kr:rS:=⟨vE,nr vE,false⟩
def Kp:rS:=⟨[0],.lf (ch 0),false⟩
theorem zC{K:rS}(g:K=Kd\/K=Kr)(C:Cf W c0 t0 b nm c t)(e:Tj P st c0 t0 K.cs l=true)(f:a∉l)(I:gm c tg bT)(z:Sz bT o)(hd:W.T.drop o=a::(w++rest))(hw:∀x∈w,sv K x=true)(d:∀x r,rest=x::r->sv K x=false)
  (h:Go W st c t (dS bT (a::w)) tg (o+1+w.length)):Go W st c t bT tg o:=by
 rcases g with rfl|rfl
 .exact pD C (.head _) (.head _) e (fun θ h=>⟨qy h f,h⟩) I z hd hw d h
 .exact pD C (.tail _ (.tail _ (.head _))) (.head _) e (fun θ h=>⟨qy h f,h⟩) I z hd hw d h
theorem KL(C:Cf W c0 t0 b nm c t)(e:VE P st c0 t0 a=true)(I:gm c tg bT)(z:Sz bT o)(hd:W.T.drop o=a::(w++rest))(hw:∀x∈w,sv Ks x=true)(d:∀x r,rest=x::r->sv Ks x=false)
  (h:Go W st c t (dS bT (a::w)) tg (o+1+w.length)):Go W st c t bT tg o:=
 pD (Zm:=[]) C (.tail _ (.head _)) (.tail _ (.head _)) e (fun θ h=>⟨bR,rfl⟩) I z hd hw d h
end
end
section
variable{W:Wk P}
def CR(W:Wk P)(Ss:List Sx)(i:Nat)(rs:List bQ):Prop:=∀n x,rs[n]?=some x->∃S a,Ss[i+n]?=some S/\Ss[i+n+1]?=some a/\∀d,22<=d->cG (cx P W.Z) (bodyOf (KF P) 126) (OJ P S d) (.ret (.lf x)) (cz 0 a)
section
variable{as:List Nat}
theorem RJ:CR W Ss i []:=fun n x h=>by exact cX h
theorem CR.tail(h:CR W Ss i (x::rs)):CR W Ss (i+1) rs:=fun n y e=>by
 have:=h (n+1) y e;exact eL (by exact cC 0x12FCC910C1C90 tt:i+1+n=i+(n+1)) this
theorem CR.shift(h:CR W Ss i rs)(b:Rs.length=a):CR W (Rs++Ss) (a+i) rs:=fun n y e=>by
 refine cw (h n y e) fun S g c f d=>(dJ S g ⟨?_,?_,d⟩)
 .refine eL (aI (by exact kF 0x10FC3C2106F10 tt b)) (eR c ?_);congr 1;exact rj 0x12FC4326FC4C31C027F10 tt b (aq (kF 0x10FC3C2106F10 tt b))
 .refine eL (aI (by exact kF 0x10FC9C3C2106F10 tt b)) (eR f ?_);congr 1;exact rj 0x12FC9C4326FC9C4C31C027F10 tt b (aq (kF 0x10FC9C3C2106F10 tt b))
theorem CR.more(h:CR W Ss i rs):CR W (Ss++Rs) i rs:=fun n y e=>by
 exact cw (h n y e) fun S d a b c=>(dJ S d ⟨(aJ (au.mp a).1).trans a,(aJ (au.mp b).1).trans b,c⟩)
theorem CR.take(h:CR W Ss i (rs++ls)):CR W Ss i rs:=fun n y e=>h n y ((aJ (au.mp e).1).trans e)
theorem chain:∀as o S r,At W.raw W.T o S->W.T.drop o=as++r->∃Ss c,Ss.length=as.length+1/\Ss[0]?=some S/\Ss[as.length]?=some c/\CY W Ss/\CR W Ss 0 (as.map ch)/\At W.raw W.T (o+as.length) c/\(∀a,as.getLast?=some a->SS W.raw W.T (o+as.length-1) c a):=by
 intro as;induction as with
 |nil=>
  intro o S r h e;exact dJ ([S]) S ⟨rfl,rfl,rfl,jX h Bk,RJ,h,fun a h=>by exact cX h⟩
 |cons a as u=>
  intro o S r h e;refine dW (Vx h e (ah _)) fun f g0 t y _=>(ro (u (o+1) f r t y) fun Ss c i m l z k p w=>(dJ (S::Ss) c ⟨az (· +1) i,rfl,l,jX h z,fun n x q=>?_,by refine eL ay ?_;exact eL (by exact cC 0x12FC1C90CC910 tt:o+(as.length+1)=o+1+as.length) p,fun b hb=>?_⟩))
  .rcases n with _|n
   ·(injection q with g;subst g);exact(dJ S f ⟨rfl,m,(fun d hd=>cG.deep ‹_› hd:∀d,22<=d->cG (cx P W.Z) (bodyOf (KF P) 126) (OJ P S d) (.ret (.lf (ch a))) (cz 0 f))⟩)
   .refine cw (k n x q) fun A B v s C=>?_;rw [Nat.zero_add] at v s ⊢
    exact dJ A B ⟨v,s,C⟩
  .clear i z k p t y h e u;rcases as with _|⟨j,as⟩
   .clear w r;(injection hb with g;subst g);have:f=c:=by
     exact bB (eR m (l))
    exact eR this g0
   .have:=w b hb;exact eL (by simp only [ay];exact kF 0x12F036FCC9C921C937FCC92C91C90 tt (aq (cC 0x10FCC91C909 tt)) (aq (cC 0x10FCC9C9109 tt)):o+(a::j::as).length-1=o+1+(j::as).length-1) this
theorem Ho(r:At W.raw W.T o S)(hd:W.T.drop o=as++a::l)(k:a::l=m++l'):∃(Ss:List Sx) (e c f:Sx),Ss[0]?=some S/\CY W Ss/\CR W Ss 0 ((as++[a]).map ch)/\Ss[as.length+1]?=some e/\Ss[as.length+2]?=some c/\
  (∀d,22<=d->cG (cx P W.Z) (bodyOf (KF P) 156) (dh P 156 (nT [("char",.lf (ch a))]) (cz 0 e) d) .next (cz 0 c))/\CR W Ss (as.length+2) (m.map ch)/\Ss[as.length+2+m.length]?=some f/\At W.raw W.T (o+as.length+m.length) f:=by
 refine ro (chain (as++[a]) o S l r (by refine eL (hd ..) (eL (aw ..) ?_);rfl)) fun Ss e b v g x p y h=>?_;rw [aa] at b g h
 refine bW (XR W.G W.R W.mM (eR (by rfl:o+(as.length+[a].length)-1=o+as.length) (h a aX)) (ah 22)) fun c s _=>?_;refine ro (chain m (o+as.length) c l' s (by exact eR br (eL (hd ..) (eL drop_left (eL k rfl))))) fun Rs f z t u i w q _=>?_;have b:=b
 have at2:∀n,(Ss++Rs)[as.length+2+n]?=Rs[n]?:=fun n=>by refine eL (aI (by exact dN 0x10FC2CA106FCA10 tt b)) ?_;congr 1;exact kF 0x12F326FC3CA1C027FCA10 tt b (aq (dN 0x10FC2CA106FCA10 tt b))
 refine oP (Ss++Rs) e c f ⟨(eL (aJ (by exact cC 0x11F087FCA10 tt b)) v),fun X j=>(bg.mp j).elim (x X) (i X),p.more,(eL (aJ (by exact cC 0x11F0C917FCA10 tt b)) g),((at2 0).trans t),(fun d hd=>cG.deep ‹_› hd:∀d,22<=d->cG (cx P W.Z) (bodyOf (KF P) 156) (dh P 156 (nT [("char",.lf (ch a))]) (cz 0 e) d) .next (cz 0 c)),?_,((at2 _).trans u),q⟩
 .have:=w.shift b;exact this
theorem oq(h:CR W Ss i rs)(a:CY W Ss)(l:∀k,isLit (oz (tx W.raw) Ss xs k)=true)(n:ls.map (bQ.sub (oz (tx W.raw) Ss xs))=rs)(hd:22<=d):dT ((cx P W.Z).sy (oz (tx W.raw) Ss xs) Φ) (iE 1 d ls i):=fun e b=>by
 refine bW (bL.mp (b)) fun p hp m=>?_;clear b;subst m
 refine cw (h p.2 (p.1.sub (oz (tx W.raw) Ss xs)) (by refine eR n (eL aH (eL (mem_zipIdx_iff_getElem?.mp hp) ?_));rfl)) fun S j c f g=>?_;exact Gm l (ir c (a S (aR c)).2) (ir f (a j (aR f)).2) rfl (g d hd)
theorem dK(h:dT C Es)(t:dT C a):dT C (Es++a):=fun g hg=>(bg.mp hg).elim (h g) (t g)
theorem tY:(as.map ch).map (bQ.sub θ)=as.map ch:=by
 refine eL bh ?_;rfl
end
end
section
variable{W:Wk P}
section
variable{t0 t1 t t':Option bQ}{st kT:Addr}{x ul:bQ}{w as m l l' r:List Nat}{bT:List Gi}{tg:List Tg}{a q:Nat}{b nm:bQ}{xs:List bQ}
abbrev jx(W:Wk P)(Ss:List Sx)(b nm:bQ)(xs:List bQ):Nat->bQ:=oz (tx W.raw) Ss (b::nm::xs)
theorem kI(C:Cf W c0 t0 b nm c t)(V:xs.all isLit=true)(e:Y P Φ Es n (cO st c0 t0 (cq 0)) (eZ 1 x) none (stays c0) (cO kT c0 t1 (cq (as.length+2+m.length)))=true)
  (hd:W.T.drop o=as++a::l) (y:a::l=m++l') (G:22<=s)
  (M:∀Ss,CY W Ss->CR W Ss 0 ((as++[a]).map ch)->CR W Ss (as.length+2) (m.map ch)->(∀k,isLit (jx W Ss b nm xs k)=true)->fR ((cx P W.Z).sy (jx W Ss b nm xs) Φ) (zG 1 (cq (as.length+1)) (cq (as.length+2)) ul s)->dT ((cx P W.Z).sy (jx W Ss b nm xs) Φ) Es)
  (D:∀Ss,Facts (jx W Ss b nm xs) Φ) (z:∀Ss,ul.sub (jx W Ss b nm xs)=ch a) (H:∀Ss,x.sub (jx W Ss b nm xs)=tx w) (L:∀Ss,t1.map (bQ.sub (jx W Ss b nm xs))=t')
  (I:gm c tg bT) (N:∀a,bT.getLast?=some (.tx a)->(a++w).length<=big) (h:Go W kT c t' (dS bT w) tg (o+as.length+m.length)):Go W st c t bT tg o:=fun S B=>by
 refine Wa (Ho B hd y) fun Ss X S2 A f d E v p F U g J=>(cN (h A J) fun k O=>?_)
 have mem:∀ {i} {S:Sx},Ss[i]?=some S->S.raw=tx W.raw:=fun h=>(d _ (aR h)).2
 have u:=C.2 Ss xs;exact⟨k+1,mV (Bo d (C.lits V) (D Ss) fun j=>M Ss d E U j (yj j (ir v (mem v)) (ir p (mem p)) (z Ss) (F s G)):Sy (cx P W.Z) (jx W Ss b nm xs) Φ Es) e (.head _) (H Ss) u.1 u.2 (L Ss) (ir f (mem f)) (ir g (mem g)) I N O⟩
theorem ur(C:Cf W c0 t0 b nm c t):∀Ss,t0.map (bQ.sub (jx W Ss b nm xs))=t:=fun Ss=>(C.2 Ss xs).2
theorem Mz(C:Cf W c0 t0 b nm c t)(e:i6 P st c0 t0 a=true)(I:gm c tg bT)(z:Sz bT o)(hd:W.T.drop o=38::a::l)(h:Go W st c t (dS bT [38]) tg (o+1)):Go W st c t bT tg o:=by
 have f:=eT hd (aZ _ _);rw [ay,ay] at f;exact kI (as:=[38]) (m:=[]) (xs:=[]) (w:=[38]) C rfl e hd rfl (by decide) (fun Ss O c1 c2 d g=>dK (dK (oq (rs:=[ch 38]) (CR.take (ls:=[ch a]) c1) O d rfl (by decide)) (oq c1.tail O d rfl (by decide))) (cg g bU))
  (fun _=>bR) (fun _=>rfl) (fun _=>rfl) (ur C) I (z.mM (n:=1) (dN 0x10F2C906F2CC9C910 tt f) (ah _)) h
theorem RC(f:∀k,isLit (θ k)=true)(e:l∈[vA,wL])(d:a∈AL)(c:x.sub θ=tx (l++[a])):fR ((cx P W.Z).sy θ Φ) (n7 x):=by
 have k:=ak.mp (ak.mp (bS (bS (bS (qr P)).2).2).2 a d) l e;have z:=dO W.G (gK (L:=[]) rfl bR bU) k;refine eO f rfl rfl (by show(⟨_,[("prefix",.lf (x.sub θ)),_],_,_⟩:St)=_;refine eL c ?_;rfl) rfl rfl (cG.deep z (by decide:32<=34))
theorem Uh(l:List Nat):l.map ch=(l.map fun c=>[c]).map tx:=by refine eL bh ?_;rfl
theorem vD(l:List Nat):(l.map fun c=>[c]).flatten=l:=List.flatMap_singleton' _
theorem LS(C:Cf W c0 t0 b nm c t)(d:l∈[vA,wL])(e:Xi P st c0 t0 l q=true)(k:a∈AL)(I:gm c tg bT)(z:Sz bT o)(hd:W.T.drop o=38::l++a::r)(h:Go W st c t (dS bT [q]) tg (o+(l.length+1))):Go W st c t bT tg o:=by
 have g:=eT hd (aZ _ _);rw [aa,ay] at g;have lb:(l++[a]).length<=big:=by
  rcases aU.mp d with rfl|d
  .show 5<=1000000;decide
  .obtain rfl:=aB.mp d;show 4<=1000000;decide
 have i:∀Ss,(l.map ch++[bQ.sym 40]).map (bQ.sub (jx W Ss b nm [.none,.none,ch a,tx (l++[a])]))=(l++[a]).map ch:=fun Ss=>by refine eL aO (eL tY (eL aO ?_));rfl
 refine kI (as:=38::l) (m:=[]) (xs:=[.none,.none,ch a,tx (l++[a])]) (w:=[q]) (ul:=.sym 40) C rfl e hd rfl (by decide) (fun Ss O c1 c2 f j=>dK (dK (oq (rs:=[ch 38]) (CR.take (ls:=(l++[a]).map ch) c1) O f rfl (by decide)) (oq c1.tail O f (i Ss) (by decide))) (cg j (cg (RC f d k rfl) bU)))
  (fun Ss=>bP ?_ (bP rfl bR)) (fun _=>rfl) (fun _=>rfl) (ur C) I (z.mM (W:=W) (n:=1) (kF 0x10F3C906F3CC2C910 tt g) (ah _)) h
 show ew .join (.str ⟨#[]⟩::(l.map ch++[bQ.sym 40]).map (bQ.sub (jx W Ss b nm [.none,.none,ch a,tx (l++[a])])))=some (tx (l++[a]));exact eL (i ..) (eL (Uh ..) (eL (xu (eL (vD ..) lb) ..) (eL (vD ..) rfl)))
theorem LM(C:Cf W c0 t0 b nm c t)(e:Xq P st c0 t0 l (a::m) q=true)(I:gm c tg bT)(z:Sz bT o)(hd:W.T.drop o=38::l++(a::m++r))(h:Go W st c t (dS bT [q]) tg (o+(l.length+1)+(m.length+1))):Go W st c t bT tg o:=by
 have f:=eT hd (aZ _ _);rw [aa,ay] at f;have i:∀Ss,(l.map ch++[ch a]).map (bQ.sub (jx W Ss b nm []))=(l++[a]).map ch:=fun Ss=>by refine eL aO (eL tY (eL aO ?_));rfl
 exact kI (as:=38::l) (m:=a::m) (l:=m++r) (l':=r) (xs:=[]) (w:=[q]) (ul:=ch a) C rfl e hd rfl (by decide) (fun Ss O c1 c2 d g=>dK (dK (dK (oq (rs:=[ch 38]) (CR.take (ls:=(l++[a]).map ch) c1) O d rfl (by decide)) (oq c1.tail O d (i Ss) (by decide))) (cg g bU)) (oq c2 O d tY (by decide)))
  (fun _=>bR) (fun _=>rfl) (fun _=>rfl) (ur C) I (z.mM (W:=W) (n:=1) (kF 0x10F3C906F3CC2C910 tt f) (ah _)) h
theorem Kh{k:Raw}(C:Cf W c0 t0 b nm c t)(j:c0=iC)(e:ltB P k t0=true)(i:a∉ltN k)(I:gm c tg bT)(z:Sz bT o)(hd:W.T.drop o=60::a::l)(h:Go W k.st c t (dS bT [60]) tg (o+1)):Go W k.st c t bT tg o:=by
 subst j;have d:=eT hd (aZ _ _);rw [ay,ay] at d;exact kI (as:=[60]) (m:=[]) (xs:=[.none,.none,ch a]) C rfl e hd rfl (by decide) (fun Ss O c1 c2 g f=>dK (oq c1 O g rfl (by decide)) (cg f bU))
  (fun _=>qy rfl i) (fun _=>rfl) (fun _=>rfl) (ur C) I (z.mM (n:=1) (dN 0x10F2C906F2CC9C910 tt d) (ah _)) h
theorem IU{k:Raw}(C:Cf W c0 t0 b nm c t)(j:c0=iC)(e:Zd P k t0=true)(i:gS.contains a=false)(I:gm c tg bT)(z:Sz bT o)(hd:W.T.drop o=60::47::a::l)(h:Go W k.st c (some (tx [])) (dS bT [60,47]) tg (o+2)):Go W k.st c t bT tg o:=by
 subst j;have d:=eT hd (aZ _ _);rw [ay,ay] at d;exact kI (as:=[60,47]) (m:=[]) (xs:=[.none,.none,ch a]) C rfl e hd rfl (by decide) (fun Ss O c1 c2 g f=>dK (oq c1 O g rfl (by decide)) (cg f bU))
  (fun _=>bP (yi rfl i) (qy rfl (fun h=>iS h))) (fun _=>rfl) (fun _=>rfl) (fun _=>rfl) I (z.mM (n:=2) (dN 0x10F2CA06F2CC9C910 tt d) (ah _)) h
end
end
section
section
variable{θ:Nat->bQ}{l m:List Nat}{a:Nat}{b:Bool}
theorem mq:ew .eq [tx l,tx m]=some (.bool (l==m)):=by
 show(some ((⟨l.toArray⟩:Str)==⟨m.toArray⟩)).map bQ.bool=_;by_cases q:l=m
 .subst q;refine eL (bk ..) (eL (bk ..) ?_);rfl
 .refine eL (aN.mpr q) (eL (aN.mpr fun e=>q (by have:=az (fun s=>s.cps.toList) e;exact this)) ?_);rfl
theorem AR(h:∀c∈l,c<128)(d:l.length<=big):ew .lower [tx l]=some (tx (l.map lo1)):=by
 show fN (Txt.lower ⟨l.toArray⟩)=_;exact eL (lower_ascii (fun c e=>h c (by exact e))) (eL (by simp:(⟨(⟨l.toArray⟩:Str).cps.map lo1⟩:Str)=⟨(l.map lo1).toArray⟩) (iw (eL (aj ..) d)))
theorem Cy:∀a∈gS,jY.contains a=false/\a∉[33,47,62,0]:=by decide
theorem vh(h:x.sub θ=ch a)(c:gS.contains a=true):Facts θ (PI x):=
 have q:=Cy a (contains_iff_mem.mp c)
 Nk h c q.1 q.2
noncomputable def kf(nm l:List Nat):Bool:=nm.map lo1==l.map lo1
theorem Fw(d:θ 16=tx m)(g:θ 8=tx l)(e:θ 48=tx (m.map lo1))(f:θ 56=tx (l.map lo1))(n:θ 72=int m.length)(i:θ 80=int l.length)(k:m≠[])(j:∀c∈m,c<128)(al:∀c∈l,c<128)(h:m.length<=big)(bl:l.length<=big):Facts θ (Np (kf m l)):=by
 refine bP ?_ (bP ?_ (bP ?_ (bP ?_ (bP ?_ (bP ?_ bR)))))
 .show ew .truth [θ 16]=_;exact eL d (jA k)
 .show ew .lower [θ 16]=some (θ 48);exact eL d (eL e (AR j h))
 .show ew .lower [θ 8]=some (θ 56);exact eL g (eL f (AR al bl))
 .show ew .eq [θ 48,θ 56]=some (.bool (kf m l));exact eL e (eL f mq)
 .show ew .len [θ 16]=some (θ 72);exact eL d (eL n kY)
 .show ew .len [θ 8]=some (θ 80);exact eL g (eL i kY)
end
variable{P:Params}{W:Wk P}
section
variable{Φ:List Fact}{Es:List Ent}{n o:Nat}{c0 c1 c c':iW}{t0 t1 t t':Option bQ}{st kT:Addr}{x:bQ}{w as r:List Nat}{bT:List Gi}{tg:List Tg}{a:Nat}{b nm:bQ}{xs:List bQ}
theorem oV(C:Cf W c0 t0 b nm c t)(B:xs.all isLit=true)(e:Q P Φ Es n (cO st c0 t0 (cq 0)) (stays c0) (cO kT c1 t1 (cq as.length))=true)(j:(stays c1).length=(stays c0).length)(hd:W.T.drop o=as++r)
  (z:∀Ss,CY W Ss->CR W Ss 0 (as.map ch)->(∀k,isLit (jx W Ss b nm xs k)=true)->dT ((cx P W.Z).sy (jx W Ss b nm xs) Φ) Es) (u:∀Ss,Facts (jx W Ss b nm xs) Φ) (q:∀Ss,c1.sub (jx W Ss b nm xs)=c') (y:∀Ss,t1.map (bQ.sub (jx W Ss b nm xs))=t')
  (I:∀x∈bT,x.ok tg.length (stays c).length) (h:Go W kT c' t' bT tg (o+as.length)):Go W st c t bT tg o:=fun S s=>by
 refine ro (chain as o S r s hd) fun Ss l _ g f d p v _=>(cN (h l v) fun k A=>?_)
 have i:=C.2 Ss xs;exact⟨k,wU (Bo d (C.lits B) (u Ss) fun m=>z Ss d p m:Sy (cx P W.Z) (jx W Ss b nm xs) Φ Es) e j i.1 (q Ss) i.2 (y Ss) (ir g (d _ (aR g)).2) (ir f (d _ (aR f)).2) I A⟩
theorem AU(C:Cf W c0 t0 b nm c t)(B:xs.all isLit=true)(e:Y P Φ Es n (cO st c0 t0 (cq 0)) (eZ 1 x) none (stays c0) (cO kT c0 t1 (cq as.length))=true)(hd:W.T.drop o=as++r)
  (y:∀Ss,CY W Ss->CR W Ss 0 (as.map ch)->(∀k,isLit (jx W Ss b nm xs k)=true)->dT ((cx P W.Z).sy (jx W Ss b nm xs) Φ) Es) (q:∀Ss,Facts (jx W Ss b nm xs) Φ) (u:∀Ss,x.sub (jx W Ss b nm xs)=tx w) (v:∀Ss,t1.map (bQ.sub (jx W Ss b nm xs))=t')
  (I:gm c tg bT) (z:∀a,bT.getLast?=some (.tx a)->(a++w).length<=big) (h:Go W kT c t' (dS bT w) tg (o+as.length)):Go W st c t bT tg o:=fun S p=>by
 refine ro (chain as o S r p hd) fun Ss j _ g f d m s _=>(cN (h j s) fun k A=>?_)
 have i:=C.2 Ss xs;exact⟨k+1,mV (Bo d (C.lits B) (q Ss) fun l=>y Ss d m l:Sy (cx P W.Z) (jx W Ss b nm xs) Φ Es) e (.head _) (u Ss) i.1 i.2 (v Ss) (ir g (d _ (aR g)).2) (ir f (d _ (aR f)).2) I z A⟩
variable{k:Raw}{N l:List Nat}{v:Bool}
abbrev hV(N:List Nat):iW:=.sd (tx N)
theorem kx{t:Option (List Nat)}:Cf W iC (t.map fun _=>oy) (tx (t.getD [])) (tx N) (hV N) (t.map tx):=⟨⟨rfl,rfl⟩,fun Ss xs=>⟨rfl,by rcases t with⟨⟩<;>rfl⟩⟩
theorem AY{t:Option (List Nat)}(e:XP P k (t.map fun _=>oy)=true)(f:gS.contains a=true)(I:∀x∈bT,x.ok tg.length 9)(hd:W.T.drop o=60::47::a::r)(h:Go W k.xq (hV N) (some (tx [a])) bT tg (o+3)):Go W k.st (hV N) (t.map tx) bT tg o:=
 oV (as:=[60,47,a]) (xs:=[.none,.none,ch a]) (W:=W) kx rfl e rfl hd (fun Ss O c1 d=>oq c1 O d rfl (by decide)) (fun _=>dI (vh rfl f) (bP (fX (a:=[]) (by show 1<=1000000;decide)) bR)) (fun _=>rfl) (fun _=>rfl) I h
abbrev NO(a:bQ)(N l s:List Nat):List bQ:=[.none,.none,a,tx (N.map lo1),tx (l.map lo1),tx s,int N.length,int l.length]
structure tQ(N l:List Nat):Prop where
 ne:N≠[]
 an:∀c∈N,c<128
 al:∀c∈l,c<128
 bn:N.length<=big
 bl:l.length+2<=big
theorem Ja(e:Yu P k (kf N l)=true)(q:tQ N l)(f:gS.contains a=true)(I:∀x∈bT,x.ok tg.length 9)(hd:W.T.drop o=a::r)(h:Go W k.xq (hV N) (some (tx (l++[a]))) bT tg (o+1)):Go W k.xq (hV N) (some (tx l)) bT tg o:=
 oV (as:=[a]) (xs:=NO (ch a) N l (l++[a])) (W:=W) (b:=tx l) (nm:=tx N) (kx (t:=some l)) rfl e rfl hd (fun Ss O c1 d=>oq c1 O d rfl (by decide)) (fun _=>dI (dI (Fw rfl rfl rfl rfl rfl rfl q.ne q.an q.al q.bn (ag (aK _ _) q.bl)) (vh rfl f)) (bP (fX (by have:=q.bl;refine eL aa ?_;exact cC 0x10F1C904F1CA0 tt this)) bR)) (fun _=>rfl) (fun _=>rfl) I h
theorem wq{y:bQ}{u:Nat}(e:Vw P k (kf N l) y=true)(q:tQ N l)(f:∀Ss,y.sub (jx W Ss (tx l) (tx N) (NO (ch u) N l (60::47::l)))=ch a)(d:gS.contains u=false/\jY.contains u=false/\u∉[47,62])(I:gm (hV N) tg bT)(i:∀a,bT.getLast?=some (.tx a)->(a++60::47::l).length<=big)(hd:W.T.drop o=a::r)(h:Go W k.st (hV N) (some (tx l)) (dS bT (60::47::l)) tg o):Go W k.xq (hV N) (some (tx l)) bT tg o:=
 kI (as:=[]) (m:=[]) (kx (t:=some l)) rfl e hd rfl (by decide) (fun Ss O c1 c2 g d=>dK (oq c1 O g (az (fun z=>[z]) (f Ss)) (by decide)) (cg d bU))
  (fun _=>dI (dI (Fw rfl rfl rfl rfl rfl rfl q.ne q.an q.al q.bn (ag (aK _ _) q.bl)) (Nk rfl d.1 d.2.1 d.2.2)) (bP (fX (by have:=q.bl;exact this)) bR)) f (fun _=>rfl) (fun _=>rfl) I i h
end
end
section
noncomputable def Gi.t9(x:Gi):Gi:=match x with
 |.cu _=>.cu 9
 |x=>x
noncomputable def Gi.fr(q:Nat)(x:Gi):Gi:=match x with
 |.cu _=>.fz q
 |x=>x
noncomputable def iW.tg(c:iW)(N:List Nat):List Tg:=match c with
 |.no=>[]
 |.st _=>[]
 |.sd _=>[⟨true,N⟩]
 |.en _=>[⟨false,N⟩]
section
variable{st:Addr}{bT:List Gi}
theorem HP(h:(stays c).length=9):∀o∈cO st c t S,o.gk 9=true:=by
 have z:(cO st c t S).all (fun o=>o.gk 9)=true:=by
  induction c with
  |no=>cases h
  |_=>rcases t with⟨⟩<;>rfl
 exact fun o ho=>ak.mp z o ho
theorem FI(h:(stays c).length=9):(cO st c t S).length=9:=by
 induction c with
 |no=>cases h
 |_=>rfl
theorem MZ(h:∀x∈bT,x.ok q 9):bT.map Gi.t9=(bT.map (Gi.fr q)).map (Gi.rf q):=by
 refine eL bh (bG fun x a=>?_);rcases x with _|i|_
 .rfl
 .have:=h _ a;show Gi.fz i=if i=q then Gi.cu 9 else .fz i;exact eL (if_neg (by exact ne_of_lt (cC 0x11F105F10 tt this))) rfl
 .show Gi.cu 9=if q=q then Gi.cu 9 else .fz q;exact eL (if_pos rfl) rfl
theorem NW(h:∀i,Gi.cu i∈bT->i=7):bT=(bT.map Gi.t9).map (Gi.re (iX++[9,10,7,8])):=by
 refine eL bh (((bG fun x a=>?_).trans (map_id _)).symm);rcases x with _|_|i
 .rfl
 .rfl
 .refine eL (h i a) ?_;rfl
theorem Nq(h:∀x∈bT,x.ok q v)(c:9<v):∀x∈bT.map Gi.t9,x.ok q v:=fun x a=>by
 refine bW (bL.mp a) fun y d b=>?_;clear a;subst b
 rcases y with _|_|_
 .exact trivial
 .exact h _ d
 .exact c
theorem NR(h:∀x∈bT,x.ok q v):∀x∈bT.map (Gi.fr q),x.ok (q+1) v:=fun x a=>by
 refine bW (bL.mp a) fun y c b=>?_;clear a;subst b
 rcases y with _|i|_
 .exact trivial
 .exact Nat.lt_succ_of_lt (h _ c)
 .exact bF q
theorem mN(h:∀x∈bT,x.ok q v)(b:v<=w):∀x∈bT,x.ok q w:=fun x a=>by
 rcases x with _|_|i
 .exact trivial
 .exact h _ a
 .exact aS (h _ a) b
end
variable{W:Wk P}
section
variable{k0 o:Nat}{c0 c1 c c':iW}{t0 t1 t t':Option bQ}{st kT:Addr}{bT:List Gi}{tg:List Tg}{S S':Sx}{N:List Nat}{j:Nat}{x:bQ}{w as r:List Nat}{b nm:bQ}{xs:List bQ}
theorem Ad(d:c0=iC\/c0=.en oh)(a:θ 16=tx N):∃g,c0.tg N=[g]/\ip θ c0.old=rl g 10/\rR c0=iX++[9,10,7,8]/\(stays c0).length=9:=by
 rcases d with rfl|rfl
 .refine ⟨⟨true,N⟩,rfl,?_,rfl,rfl⟩;show[gD (θ 16) 10,.dict []]=_;refine eL a ?_;rfl
 .refine ⟨⟨false,N⟩,rfl,?_,rfl,rfl⟩;show[gp (θ 16) 10,.list []]=_;refine eL a ?_;rfl
theorem vX(A:Sy (cx P W.Z) θ Φ Es)(e:Q P Φ Es n (cO st c0 t0 (cq 0)) (rR c0) (cO kT c1 t1 (cq k0)++c0.old)=true)(v:c0=iC\/c0=.en oh)(u:θ 16=tx N)(B:(stays c1).length=9)(q:c0.sub θ=c)(d:c1.sub θ=c')(i:t0.map (bQ.sub θ)=t)(y:t1.map (bQ.sub θ)=t')(l:(cq 0).sub θ=S)(C:(cq k0).sub θ=S')
  (I:gm c tg bT) (h:W.lb k (bT.map (Gi.fr tg.length)) (tg++c0.tg N) (cO kT c' t' S')):W.lb k bT tg (cO st c t S):=by
 refine dW (Ad v u) fun g m s D p=>?_;subst q
 rw [D] at e;have a:=p▸gf▸I.ok;have f:(stays c').length=9:=by exact eR d (eL gf B)
 have z:=xY W.G A e rfl W.hD W.hb W.hpre (Nq (mN a (by decide:9<=11)) (by decide)) (NW I.Tb) (by
  exact eL (show ip θ (cO kT c1 t1 (cq k0)++c0.old)=ip θ (cO kT c1 t1 (cq k0))++ip θ c0.old from aO) (eL fj (eL y (eL C (eL d (eL s (NA (FI f) (HP f) W.hD W.hb W.hpre (NR a) (MZ a) (eR m h))))))))
 exact eR l (eR i (eR fj z))
theorem Co{y:bQ}(J:Sy (cx P W.Z) θ Φ Es)(e:Y P Φ Es n (cO st c0 t0 (cq 0)) (gp y 10) none (rR c0) (cO kT c1 t1 (cq k0)++c0.old) (some 9)=true)(B:c0=iC\/c0=.en oh)(A:θ 16=tx N)(E:y.sub θ=tx M)(O:(stays c1).length=9)(u:c0.sub θ=c)(i:c1.sub θ=c')(m:t0.map (bQ.sub θ)=t)(H:t1.map (bQ.sub θ)=t')(p:(cq 0).sub θ=S)(T:(cq k0).sub θ=S')
  (I:gm c tg bT) (h:W.lb k (bT.map (Gi.fr tg.length)++[.cu 7]) (tg++c0.tg N) (cO kT c' t' S')):W.lb (k+1) bT tg (cO st c t S):=by
 refine dW (Ad B A) fun g q v U s=>?_;subst u
 rw [U] at e;have a:=s▸gf▸I.ok;have l:(stays c').length=9:=by exact eR i (eL gf O)
 have fz:=NA (bT:=bT.map Gi.t9++[Gi.cu 7]) (FI l) (HP l) W.hD W.hb W.hpre (fun x d=>(bg.mp d).elim (NR a x) fun z=>by obtain rfl:=aB.mp z;show 7<9;decide) (by refine eL aO (eL (MZ a) ?_);rfl) (eR q h);have z:=ug (F:=cV W.D bT tg) (fb:=bT.map Gi.t9++[Gi.cu 7]) W.G J e rfl W.hD W.hb W.hpre (fun x d=>(bg.mp d).elim (Nq (mN a (by decide:9<=11)) (by decide) x) fun z=>by obtain rfl:=aB.mp z;show 7<11;decide) cB (fun L j f C hr hit=>?_) (by
  exact eL (show ip θ (cO kT c1 t1 (cq k0)++c0.old)=ip θ (cO kT c1 t1 (cq k0))++ip θ c0.old from aO) (eL fj (eL H (eL T (eL i (eL v fz))))))
 .exact eR p (eR m (eR fj z))
 .obtain rfl:=aC.mp (C);refine eL aO (eR (NW I.Tb) ?_);have f:L[9]?=some (gp (tx M) 10):=E▸f;exact Fe W.G W.hp f (by have:=I.len;exact gC 0x10F8BEB3B804F4B8B3B80 tt this)
theorem GY(p:Sy (cx P W.Z) θ Φ Es)(e:Y P Φ Es n (cO st c0 t0 (cq 0)) (gD y 9) (some kT) (iX++[7,9]) (cO kT c1 t1 (cq k0)) (some 7)=true)(v:(M,kT)∈names)(u:y.sub θ=tx M)(l:c0.sub θ=c)(g:c1.sub θ=c')(d:t0.map (bQ.sub θ)=t)(m:t1.map (bQ.sub θ)=t')(f:(cq 0).sub θ=S)(q:(cq k0).sub θ=S')
  (E:∀x∈bT,x.ok tg.length 9) (O:bT.length<=900) (B:∀i,Gi.cu i∉bT) (h:W.lb k (bT++[.cu 7]) tg (cO kT c' t' S')):W.lb (k+1) bT tg (cO st c t S):=by
 have s:∀x∈bT,x.ok tg.length 9:=fun x a=>by
  clear p e v u l g d m f q;rcases x with _|_|i
  .exact trivial
  .exact E _ a
  .exact absurd a (B i)
 have A:(bT++[Gi.cu 7]).map (Gi.re (iX++[7,9]))=bT++[.cu 7]:=by
  refine eL aO (az (·++[Gi.cu 7]) ((bG fun x a=>?_).trans (map_id _)));clear s p e v u l g d m f q;rcases x with _|_|i
  .rfl
  .rfl
  .exact absurd a (B i)
 have z:=ug (F:=cV W.D bT tg) W.G p e rfl W.hD W.hb W.hpre (fun x a=>(bg.mp a).elim (s x) fun z=>by obtain rfl:=aB.mp z;show 7<9;decide) cB (fun T j L C hr hit=>?_) (eL fj (eL m (eL q (eL g h))))
 .exact eR f (eR d (eR l (eR fj z)))
 .clear hit s p e l g d m f q;obtain rfl:=aC.mp (C);refine eL A (eF hr ?_);clear hr;intro as r J H;clear C A;subst J;exact VP W.G W.hp v H (u▸L:(AO.inst 755 as::r)[7]?=some (gD (tx M) 9)) (gC 0x10F8BEB3B804F4B8B3B80 tt O)
theorem DE(C:Sy (cx P W.Z) θ Φ Es)(e:Y P Φ Es n (cO st c0 t0 (cq 0)) (om y) none (iX++[7,8]) (cO kT c1 t1 (cq k0)) (some 7)=true)(A:y.sub θ=tx M)(s:c0.sub θ=c)(q:c1.sub θ=c')(l:t0.map (bQ.sub θ)=t)(B:t1.map (bQ.sub θ)=t')(m:(cq 0).sub θ=S)(H:(cq k0).sub θ=S')
  (g:∀x∈bT,x.ok tg.length 9) (J:bT.length<=900) (u:∀i,Gi.cu i∉bT) (h:W.lb k (bT++[.cu 7]) tg (cO kT c' t' S')):W.lb (k+1) bT tg (cO st c t S):=by
 have f:∀x∈bT++[Gi.cu 7],x.ok tg.length 9:=fun x a=>by
  rcases bg.mp a with a|a
  .rcases x with _|_|i
   .exact trivial
   .exact g _ a
   .exact absurd a (u i)
  .obtain rfl:=aB.mp a;show 7<9;decide
 have p:=tE (c:=.en oh) f;have z:=ug (F:=cV W.D bT tg) W.G C e rfl W.hD W.hb W.hpre f cB (fun E j d v hr hit=>?_) (eL fj (eL B (eL H (eL q h))))
 .exact eR m (eR l (eR s (eR fj z)))
 .obtain rfl:=aC.mp (v);refine eL p ?_;have d:E[7]?=some (gp (tx M) 8):=A▸d;exact Fe W.G W.hp d (gC 0x10F8BEB3B804F4B8B3B80 tt J)
end
end
section
variable{P:Params}{W:Wk P}
section
variable{θ:Nat->bQ}{Φ:List Fact}{Es:List Ent}{n k o:Nat}{c0 c1 c c':iW}{t0 t1 t':Option bQ}{t:Option (List Nat)}{st kT:Addr}{bT:List Gi}{tg:List Tg}{N M l r as:List Nat}{a:Nat}{b nm x:bQ}{w:List Nat}{xs:List bQ}
abbrev oH(t:Option (List Nat)):Option bQ:=t.map fun _=>oy
theorem xX(g:∀k,isLit (θ k)=true)(d:x.sub θ=tx N)(h:y.sub θ=tx (N.map lo1))(f:∀c∈N,c∈AL)(e:N.length<=10000):fR ((cx P W.Z).sy θ Φ) (PM x y):=
 eO g rfl rfl (by show(⟨_,[("text",.lf (x.sub θ))],_,_⟩:St)=_;refine eL d ?_;rfl) (by show Fl.ret (.lf (y.sub θ))=_;exact eL h rfl) rfl (Dz W.G (.head _) f e (by decide:20<=34))
theorem je(hd:W.T.drop o=as++r)(h:Go W kT c' t' bT tg (o+as.length))(m:At W.raw W.T o S):∃Ss d k,CY W Ss/\CR W Ss 0 (as.map ch)/\W.lb k bT tg (cO kT c' t' d)/\∀b nm xs,(cq 0).sub (jx W Ss b nm xs)=S/\(cq as.length).sub (jx W Ss b nm xs)=d:=by
 exact ro (chain as o S r m hd) fun Ss d _ f g e j i _=>(cN (h d i) fun k p=>(kj Ss d k ⟨e,j,p,fun b nm xs=>⟨ir f (e _ (aR f)).2,ir g (e _ (aR g)).2⟩⟩))
theorem NL(I:gm .no tg bT):∀i,Gi.cu i∉bT:=fun i h=>by
 exact gC 0x17F7B805F7B80 tt (I.ok _ h) (I.Tb i h)
theorem VA(e:WV P .no none=true)(I:gm .no tg bT)(j:gS.contains a=true)(hd:W.T.drop o=60::a::r)(h:Go W 360 (.st (tx [a])) none bT tg (o+2)):Go W 297 .no none bT tg o:=fun S i=>by
 refine jQ (je (as:=[60,a]) hd h i) fun Ss u k d m q ks=>(bY (ks .none .none [.none,.none,ch a]) fun p s=>?_)
 have f:=mN I.ok (by decide:7<=9);have z:=xY (fb:=bT) (pre:=W.pre) (k:=k) (Fin:=W.Fin) (D:=W.D) (tg:=tg) W.G (Bo d rfl (vh rfl j) fun g=>oq m d g rfl (by decide):Sy (cx P W.Z) (jx W Ss .none .none [.none,.none,ch a]) (PI (.sym 40)) (iE 1 35 [ch 60,.sym 40] 0)) e rfl W.hD W.hb W.hpre f (tE (c:=.st oh) f).symm (by
  exact eL (aF _:(cO 360 (.st (.sym 40)) none (cq 2)++iW.no.old)=cO 360 (.st (.sym 40)) none (cq 2)) (eL fj (eL (s:(cq 2).sub _=_) q)))
 rw [fj,p] at z;exact⟨k,z⟩
theorem VS(e:WV P (.en oh) (some oy)=true)(I:gm (.en (tx N)) tg bT)(p:gS.contains a=true)(hd:W.T.drop o=60::a::r)(h:Go W 360 (.st (tx [a])) (some (tx l)) (bT.map (Gi.fr tg.length)) (tg++[⟨false,N⟩]) (o+2)):Go W 297 (.en (tx N)) (some (tx l)) bT tg o:=fun S j=>by
 exact jQ (je (as:=[60,a]) hd h j) fun Ss s k d f m ks=>(bY (ks (tx l) (tx N) [.none,.none,ch a]) fun i q=>⟨k,vX (Bo d rfl (vh rfl p) fun g=>oq f d g rfl (by decide):Sy (cx P W.Z) (jx W Ss (tx l) (tx N) [.none,.none,ch a]) (PI (.sym 40)) (iE 1 35 [ch 60,.sym 40] 0)) e (.inr rfl) rfl rfl rfl rfl rfl rfl i q I m⟩)
theorem Nh:Cf W (.st oh) (oH t) (tx (t.getD [])) (tx N) (.st (tx N)) (t.map tx):=⟨⟨rfl,rfl⟩,fun Ss xs=>⟨rfl,by rcases t with⟨⟩<;>rfl⟩⟩
theorem UM(e:XY P (oH t)=true)(f:gS.contains a=true)(hb:(N++[a]).length<=big)(I:∀x∈bT,x.ok tg.length 9)(hd:W.T.drop o=a::r)(h:Go W 360 (.st (tx (N++[a]))) (t.map tx) bT tg (o+1)):Go W 360 (.st (tx N)) (t.map tx) bT tg o:=
 oV (as:=[a]) (xs:=[.none,.none,ch a,tx (N++[a])]) (W:=W) (b:=tx (t.getD [])) (nm:=tx N) Nh rfl e rfl hd (fun Ss O c1 d=>oq c1 O d rfl (by decide)) (fun _=>dI (vh rfl f) (bP (fX hb) bR)) (fun _=>rfl) (fun _=>by rcases t with⟨⟩<;>rfl) I h
theorem VH(e:XK P (oH t) a=true)(I:∀x∈bT,x.ok tg.length 9)(hd:W.T.drop o=a::r)(h:Go W 528 (.st (tx N)) (t.map tx) bT tg (o+1)):Go W 360 (.st (tx N)) (t.map tx) bT tg o:=
 oV (as:=[a]) (xs:=[]) (b:=tx (t.getD [])) (nm:=tx N) Nh rfl e rfl hd (fun Ss O c1 d=>oq (rs:=[ch a]) c1 O d rfl (by decide)) (fun _=>bR) (fun _=>rfl) (fun _=>by rcases t with⟨⟩<;>rfl) I h
theorem TG(e:XJ P st (oH t) kT=true)(y:(N.map lo1,kT)∈names)(m:∀c∈N,c∈AL)(u:N.length<=10000)(g:∀x∈bT,x.ok tg.length 9)(z:bT.length<=900)(q:∀i,Gi.cu i∉bT)(hd:W.T.drop o=62::r)(h:Go W kT (.sd (tx (N.map lo1))) (t.map tx) (bT++[.cu 7]) tg (o+1)):Go W st (.st (tx N)) (t.map tx) bT tg o:=fun S j=>by
 exact jQ (je (as:=[62]) hd h j) fun Ss B k d p v ks=>(bY (ks (tx (t.getD [])) (tx N) [.none,.none,.none,tx (N.map lo1)]) fun s A=>⟨k+1,GY (Bo d rfl bR fun f=>dK (oq (rs:=[ch 62]) p d f rfl (by decide)) (cg (xX f rfl rfl m u) bU):Sy (cx P W.Z) (jx W Ss (tx (t.getD [])) (tx N) [.none,.none,.none,tx (N.map lo1)]) [] (iE 1 35 [ch 62] 0++[PM oh (.sym 48)])) e y rfl rfl rfl (by rcases t with⟨⟩<;>rfl) (by rcases t with⟨⟩<;>rfl) s A g z q v⟩)
theorem Us(e:Zk P=true)(m:∀c∈N,c∈AL)(u:N.length<=10000)(g:∀x∈bT,x.ok tg.length 9)(y:bT.length<=900)(q:∀i,Gi.cu i∉bT)(hd:W.T.drop o=62::r)(h:Go W 297 (.en (tx (N.map lo1))) (some (tx l)) (bT++[.cu 7]) tg (o+1)):Go W 528 (.en (tx N)) (some (tx l)) bT tg o:=fun S j=>by
 exact jQ (je (as:=[62]) hd h j) fun Ss A k d p v ks=>(bY (ks (tx l) (tx N) [.none,.none,.none,tx (N.map lo1)]) fun s z=>⟨k+1,DE (Bo d rfl bR fun f=>dK (oq (rs:=[ch 62]) p d f rfl (by decide)) (cg (xX f rfl rfl m u) bU):Sy (cx P W.Z) (jx W Ss (tx l) (tx N) [.none,.none,.none,tx (N.map lo1)]) [] (iE 1 35 [ch 62] 0++[PM oh (.sym 48)])) e rfl rfl rfl rfl rfl s z g y q v⟩)
variable{kr:Raw}
theorem Av(q:tQ N l)(d:kf N l=true){a:bQ}:Facts (jx W Ss (tx l) (tx N) (NO a N l s)) (Np true):=by
 have:=Fw (θ:=jx W Ss (tx l) (tx N) (NO a N l s)) rfl rfl rfl rfl rfl rfl q.ne q.an q.al q.bn (ag (aK _ _) q.bl);exact eR d this
theorem OD(e:Yc P kr a=true)(q:tQ N l)(f:kf N l=true)(I:gm (hV N) tg bT)(hd:W.T.drop o=a::r)(h:Go W 528 (.en (tx l)) (some (tx l)) (bT.map (Gi.fr tg.length)) (tg++[⟨true,N⟩]) (o+1)):Go W kr.xq (hV N) (some (tx l)) bT tg o:=fun S i=>by
 exact jQ (je (as:=[a]) hd h i) fun Ss u k d j p ks=>(bY (ks (tx l) (tx N) (NO .none N l [])) fun m s=>⟨k,vX (Bo d rfl (Av q f) fun g=>oq (rs:=[ch a]) j d g rfl (by decide):Sy (cx P W.Z) (jx W Ss (tx l) (tx N) (NO .none N l [])) (Np true) (iE 1 35 [ch a] 0)) e (.inl rfl) rfl rfl rfl rfl rfl rfl m s I p⟩)
theorem RA(e:Zu P kr=true)(q:tQ N l)(g:kf N l=true)(j:∀c∈l,c∈AL)(s:l.length<=10000)(I:gm (hV N) tg bT)(hd:W.T.drop o=62::r)(h:Go W 297 (.en (tx (l.map lo1))) (some (tx l)) (bT.map (Gi.fr tg.length)++[.cu 7]) (tg++[⟨true,N⟩]) (o+1)):Go W kr.xq (hV N) (some (tx l)) bT tg o:=fun S i=>by
 exact jQ (je (as:=[62]) hd h i) fun Ss y k d m u ks=>(bY (ks (tx l) (tx N) (NO .none N l (l.map lo1))) fun p v=>⟨k+1,Co (Bo d rfl (Av q g) fun f=>dK (oq (rs:=[ch 62]) m d f rfl (by decide)) (cg (xX f rfl rfl j s) bU):Sy (cx P W.Z) (jx W Ss (tx l) (tx N) (NO .none N l (l.map lo1))) (Np true) (iE 1 35 [ch 62] 0++[PM oy (.sym 64)])) e (.inl rfl) rfl rfl rfl rfl rfl rfl rfl p v I u⟩)
end
end
section
variable{W:Wk P}
section
variable{tt:Option bQ}{st:Addr}
theorem GP(e:Ru P (oH t)=true)(I:gm (hV N) tg bT)(z:Sz bT o)(hd:W.T.drop o=60::33::r)(h:Go W 430 (hV N) (t.map tx) (dS bT [60,33]) tg (o+2)):Go W 332 (hV N) (t.map tx) bT tg o:=by
 have a:=eT hd (aZ _ _);rw [ay,ay] at a;exact AU (as:=[60,33]) (xs:=[]) (w:=[60,33]) (kx (N:=N) (t:=t)) rfl e hd (fun Ss O c1 b=>oq (rs:=[ch 60,ch 33]) c1 O b rfl (by decide)) (fun _=>bR) (fun _=>rfl) (fun _=>by rcases t with⟨⟩<;>rfl) I (z.mM (W:=W) (n:=2) (dN 0x10F2CA06F2CC9C910 tt a) (ah _)) h
theorem QN(e:RT P (oH t)=true)(I:gm (hV N) tg bT)(z:Sz bT o)(hd:W.T.drop o=45::r)(h:Go W 437 (hV N) (t.map tx) (dS bT [45]) tg (o+1)):Go W 430 (hV N) (t.map tx) bT tg o:=by
 have a:=eT hd (aZ _ _);rw [ay] at a;exact AU (as:=[45]) (xs:=[]) (w:=[45]) (kx (N:=N) (t:=t)) rfl e hd (fun Ss O c1 b=>oq (rs:=[ch 45]) c1 O b rfl (by decide)) (fun _=>bR) (fun _=>rfl) (fun _=>by rcases t with⟨⟩<;>rfl) I (z.mM (W:=W) (n:=1) (dN 0x10F2C906F2CC910 tt a) (ah _)) h
theorem Dg(e:Ec P st (oH t)=true)(p:a≠45)(I:∀x∈bT,x.ok tg.length 9)(hd:W.T.drop o=a::r)(h:Go W 332 (hV N) (t.map tx) bT tg o):Go W st (hV N) (t.map tx) bT tg o:=fun S n=>by
 refine Wa (Ho (as:=[]) (m:=[]) n hd rfl) fun Ss y z l c b q j g s A d u=>(cN (h l u) fun k w=>?_)
 have mem:∀ {i} {S:Sx},Ss[i]?=some S->S.raw=tx W.raw:=fun h=>(b _ (aR h)).2
 have v:Sy (cx P W.Z) (jx W Ss (tx (t.getD [])) (tx N) [.none,.none,ch a]) (Ik (.sym 40) [45]) (iE 1 35 [.sym 40] 0++[zG 1 (cq 1) (cq 2) (.sym 40) 35]):=
  Bo b rfl (qy rfl fun h=>p (aB.mp h)) fun f=>dK (oq q b f rfl (by decide)) (cg (yj f (ir j (mem j)) (ir g (mem g)) rfl (s 35 (by decide))) bU)
 exact⟨k,wU v e rfl rfl rfl (by rcases t with⟨⟩<;>rfl) (by rcases t with⟨⟩<;>rfl) (ir c (mem c)) (ir d (mem d)) I w⟩
theorem Vp(e:d8 P (oH t)=true)(c:a≠0)(I:gm (hV N) tg bT)(z:Sz bT o)(hd:W.T.drop o=a::w)(hw:0∉w)(h:Go W 339 (hV N) (t.map tx) (dS bT (a::w)) tg (o+1+w.length)):Go W 339 (hV N) (t.map tx) bT tg o:=
 pD (kx) (.tail _ (.tail _ (.tail _ (.head _)))) (.head _) e (fun θ h=>⟨qy h fun z=>c (aB.mp z),h⟩) I z (eL (aF ..) hd) (fun x b=>by
  show(([0]).contains x==false)=true;have:x≠0:=fun z=>hw (z▸b)
  simp [this]) (fun x r h=>KZ h) h
theorem At.le(h:At raw T o S):o<=T.length:=by
 refine wY h ?_;clear h;intro dn ck n k f e a _ d c b;subst a;have:=az length d;rw [aa,aa] at this;exact OO 0x10F256FC0357FCC41324F10 tt b this c
theorem sD(f:At W.raw W.T o S)(hd:W.T.drop o=as):∃(Ss:List Sx) (a:Sx),Ss[0]?=some S/\CY W Ss/\CR W Ss 0 (as.map ch++[.none])/\Ss[as.length+1]?=some a/\At W.raw W.T W.T.length a/\o+as.length=W.T.length/\
  ∀d,22<=d->cG (cx P W.Z) (bodyOf (KF P) 156) (dh P 156 (nT [("char",.lf .none)]) (cz 0 a) d) .next (cz 0 a):=by
 refine ro (chain as o S [] f (by exact eL (aF ..) hd)) fun Ss g b m l p k h _=>?_;have lo:o+as.length=W.T.length:=by
  exact(az (o + ·) ((az length hd).symm.trans bw)).trans (Nat.add_sub_of_le f.le)
 rw [lo] at h;refine bW ((Wm W.G W.R W.mM h (ah 22)).2 rfl) fun a e _=>(dJ (Ss++[a]) a ⟨(eL (aJ (by exact cC 0x11F087FC910 tt b)) m),fun X j=>(bg.mp j).elim (p X) fun z=>by obtain rfl:=aB.mp z;exact e.lit,fun i x c=>?_,?_,e,lo,fun d hd=>Kx W.G e hd⟩)
 .rcases aV i as.length with q|q
  .rw [aJ (by exact eL (aj ..) q)] at c;exact k.more i x c
  .rw [aI (by exact eL (aj ..) q),aj] at c;have hi:i=as.length:=by
    have:=(au.mp c).1;have:=this;exact Nat.le_antisymm (dN 0x10F127F2C105F90 tt this (aq (cC 0x10F104F10 tt q))) (cC 0x10F104F10 tt q)
   subst hi;rw [sub_self] at c
   (injection c with n;subst n)
   refine dJ g a ⟨(eL (Nat.zero_add ..) (eL (aJ (by exact cC 0x11F017FC910 tt b)) l)),?_,(fun d hd=>cG.deep ‹_› hd:∀d,22<=d->cG (cx P W.Z) (bodyOf (KF P) 126) (OJ P g d) (.ret (.lf .none)) (cz 0 a))⟩
   .refine eL (Nat.zero_add ..) (eL (aI (by exact cC 0x10FC9106FC910 tt b)) (eL b (eL (sub_self ..) ?_)));rfl
 .refine eL (aI (by exact cC 0x10FC9106FC910 tt b)) (eL b (eL (sub_self ..) ?_));rfl
theorem Oe{q:Nat}(C:Cf W c0 t0 b nm c tt)(e:Y P [] (iE 1 35 [ch 38] 0++iE 1 34 (l.map ch++[.none]) 1++[zG 1 (cq (l.length+2)) (cq (l.length+2)) .none 34]) 1 (cO st c0 t0 (cq 0)) (eZ 1 (ch q)) none (stays c0) (cO st c0 t0 (cq (l.length+2)))=true)(I:gm c tg bT)(z:Sz bT o)(hd:W.T.drop o=38::l)(h:Go W st c tt (dS bT [q]) tg W.T.length):Go W st c tt bT tg o:=fun S s=>by
 refine ro (sD s hd) fun Ss p j a m n r t w=>(cN (h p r) fun k v=>?_)
 have mem:∀ {i} {S:Sx},Ss[i]?=some S->S.raw=tx W.raw:=fun h=>(a _ (aR h)).2
 have g:=ir (xs:=b::nm::[]) n (mem n);have f:=C.2 Ss [];have x:(l.map ch++[bQ.none]).map (bQ.sub (jx W Ss b nm []))=l.map ch++[.none]:=by refine eL aO (eL tY ?_);rfl
 have u:Sy (cx P W.Z) (jx W Ss b nm []) [] (iE 1 35 [ch 38] 0++iE 1 34 (l.map ch++[.none]) 1++[zG 1 (cq (l.length+2)) (cq (l.length+2)) .none 34]):=
  Bo a (C.lits rfl) bR fun d=>dK (dK (oq (CR.take (ls:=l.map ch++[.none]) m) a d rfl (by decide)) (oq m.tail a d x (by decide))) (cg (yj d g g rfl (w 34 (by decide))) bU)
 exact⟨k+1,mV u e (.head _) rfl f.1 f.2 f.2 (ir j (mem j)) g I (z.mM (ag (add_le_add_left (le_add_left 1 l.length) o) (Nat.le_of_eq (t:o+(l.length+1)=W.T.length))) (ah _)) v⟩
theorem DV(C:Cf W c0 t0 b nm c tt)(e:WO P st c0 t0=true)(hd:W.T.drop o=[])(h:∀u a,At W.raw W.T W.T.length a->W.Fin (tn (X2 P).y u (fS W.pre W.D.length (bZ W.D tg))) (cV W.D bT tg++eI (bZ W.D tg) (cO st c tt a))):Go W st c tt bT tg o:=fun S n=>by
 refine ro (sD n hd) fun Ss a f d q k m t v=>?_;have mem:∀ {i} {S:Sx},Ss[i]?=some S->S.raw=tx W.raw:=fun h=>(d _ (aR h)).2
 have j:=C.2 Ss [];refine bW (cH e) fun p e1 e2=>(bY (ab.mp e2) fun e2 r=>(bY (ab.mp e2) fun e2 s=>?_))
 have g:=qi W.G (Bo d (C.lits rfl) bR fun l=>oq q d l rfl (by decide):Sy (cx P W.Z) (jx W Ss b nm []) [] (iE 1 35 [.none] 0)) e1 s;rw [show p.1=false from(bM _).mp e2,jZ _ _ r,fj,fj,j.1,j.2,(ir f (mem f)),(ir (i:=1) k (mem k))] at g;refine⟨0,.top ?_ fun u=>.fin (ou:=cE (iL (bZ W.D tg)) jw) (eL cB (eR cB (fx.sh g))) (h u a m)⟩
 .refine eL (Ag ..) ?_;refine eL cy (eL W.hp.2.1 ?_);rfl
end
end
def addW(bT:List Gi)(w:List Nat):List Gi:=match w with
 |[]=>bT
 |_=>dS bT w
section
theorem nO(bT):(∃b a,bT=b++[.tx a]/\∀w,dS bT w=b++[.tx (a++w)])\/((∀a,bT.getLast?≠some (.tx a))/\∀w,dS bT w=bT++[.tx w]):=by
 rcases eq_nil_or_concat bT with rfl|⟨b,y,rfl⟩
 .exact .inr ⟨fun a h=>(cX h),fun w=>rfl⟩
 .refine eL concat_eq_append ?_;rcases y with a|i|i
  .exact .inl (dJ b a ⟨rfl,fun w=>pR⟩)
  .exact .inr ⟨fun a h=>(by rw [aX] at h;cases h),fun w=>by unfold dS;rw [aX]⟩
  .exact .inr ⟨fun a h=>(by rw [aX] at h;cases h),fun w=>by unfold dS;rw [aX]⟩
theorem zD:dS (dS bT w) v=dS bT (w++v):=by
 rcases nO bT with⟨b,a,rfl,h⟩|⟨_,h⟩
 .exact eL (h ..) (eL (h ..) (eL (pR ..) (eL (aw ..) rfl)))
 .exact eL (h ..) (eL (h ..) (eL (pR ..) rfl))
theorem wG(b:v≠[]):dS (addW bT w) v=addW bT (w++v):=by
 rcases w with _|⟨a,w⟩
 .induction v with
  |nil=>exact absurd rfl b
  |cons=>rfl
 .exact zD
theorem qN:∃b a,dS bT w=b++[.tx a]/\(∀x∈b,x∈bT)/\b.length<=bT.length:=by
 rcases nO bT with⟨b,a,rfl,h⟩|⟨_,h⟩
 .exact dJ b (a++w) ⟨h w,fun x c=>mem_append_left _ c,eL aa (aE _)⟩
 .exact dJ bT w ⟨h w,fun _ h=>h,ah _⟩
theorem gm.add(I:gm c tg bT)(h:bT.length<=899):gm c tg (dS bT w):=by
 refine cw (qN (bT:=bT) (w:=w)) fun j a e d g=>⟨pQ I.ok,?_,fun x b=>?_,fun i hi=>?_⟩
 .refine eL e (eL aa ?_);exact cC 0x10F4B8B3B8C914F014F3B8B3B80 tt h g
 .rw [e,aX] at b
  (injection b with f;subst f)
  exact .inl ⟨a,rfl⟩
 .rw [e] at hi;rcases bg.mp hi with hi|hi
  .exact I.Tb i (d _ hi)
  .cases aB.mp hi
theorem gm.addW(I:gm c tg bT)(h:bT.length<=899):gm c tg (addW bT w):=by
 rcases w with _|⟨_,_⟩
 .exact I
 .exact I.add h
theorem Sz.add(z:Sz bT o)(h:v.length<=n):Sz (dS bT v) (o+n):=fun a c=>by
 rcases nO bT with⟨d,b,rfl,e⟩|⟨_,e⟩
 .rw [e,aX] at c;cases c;have:=z b aX;exact eL aa (kF 0x10FC31C204F324F10 tt this h)
 .rw [e,aX] at c;cases c;exact dN 0x10FC1204F10 tt h
end
def qL:List (List Nat×Nat):=[(38::vA,38),([38,35,51,56,59],38),(38::wL,60),([38,35,120,51,67,59],60)]
def EN(v:List Nat):Prop:=∀x r,v=x::r->x∈[32,10,60,38]
inductive Enc(bar:List Nat)(Lt:List Nat->Prop)(tail:List Nat):List Nat->List Nat->Prop
 |nil:Enc bar Lt tail [] []
 |chr {x:Nat} {s c:List Nat} (hx:x∉bar) (h:Enc bar Lt tail s c):Enc bar Lt tail (x::s) (x::c)
 |amp {s c:List Nat} (hb:38∈bar) (hn:EN (s++tail)) (h:Enc bar Lt tail s c):Enc bar Lt tail (38::s) (38::c)
 |ref {r:List Nat} {x:Nat} {s c:List Nat} (hb:38∈bar) (hr:(r,x)∈qL) (h:Enc bar Lt tail s c):Enc bar Lt tail (r++s) (x::c)
 |lt {s c:List Nat} (hl:Lt (s++tail)) (h:Enc bar Lt tail s c):Enc bar Lt tail (60::s) (60::c)
section
theorem jW(h:(r,x)∈qL):∃b,r=38::b:=by
 rcases aU.mp h with e|h
 .clear h;(injection e with a;subst a);exact⟨_,rfl⟩
 rcases aU.mp h with e|h
 .clear h;(injection e with a;subst a);exact⟨_,rfl⟩
 rcases aU.mp h with e|h
 .clear h;(injection e with a;subst a);exact⟨_,rfl⟩
 ·(injection (aB.mp h) with a;subst a);exact⟨_,rfl⟩
theorem Enc.uZ(E:Enc bar Lt tail (x::s) c)(f:x=38->38∉bar)(e:x≠60):∃d,c=x::d/\Enc bar Lt tail s d:=by
 generalize b:x::s=s0 at E;induction E with
 |nil=>exact YJ b
 |chr j h=>(injection b with a i;subst a;subst i);exact⟨_,rfl,h⟩
 |amp hb k h=>(injection b with a;subst a);exact absurd hb (f rfl)
 |ref hb hr h=>
  refine cN (jW hr) fun m g=>?_;clear hr h e;subst g
  (injection b with a;subst a)
  exact absurd hb (f rfl)
 |lt l h=>(injection b with a;subst a);exact absurd rfl e
theorem Enc.span{p:Nat->Bool}(i:38∈bar->p 38=false)(d:p 60=false)(f:∀x r,tail=x::r->x=60):∀ {s c},Enc bar Lt tail s c->∃w b c2,s=w++b/\c=w++c2/\Enc bar Lt tail b c2/\(∀x∈w,p x=true)/\∀x r,b++tail=x::r->p x=false:=by
 intro s c h;induction h with
 |nil=>exact(kj ([]) ([]) ([]) ⟨rfl,rfl,.nil,fun _ h=>(iS h),fun x r e=>by obtain rfl:=f x r e;exact d⟩)
 |chr j h k=>
  clear s c i d f;rcases q:p x with _|_
  .exact kj ([]) _ _ ⟨rfl,rfl,.chr j h,fun _ h=>(iS h),fun y r e=>by(injection e with a;subst a);exact q⟩
  .refine xD k fun w b c2 g u n v m=>?_;clear h j k;subst g
   subst u;exact kj (x::w) b c2 ⟨rfl,rfl,n,fun y o=>(aU.mp o).elim (fun e=>e▸q) (v y),m⟩
 |amp hb l h _=>exact(kj ([]) _ _ ⟨rfl,rfl,.amp hb l h,fun _ h=>(iS h),fun y r e=>by(injection e with a;subst a);exact i hb⟩)
 |ref hb hr h _=>exact⟨[],_,_,rfl,rfl,.ref hb hr h,fun _ h=>(iS h),fun y r e=>by
   refine cN (jW hr) fun z g=>?_;clear h hr x s c d f;subst g
   (injection e with a;subst a)
   exact i hb⟩
 |lt t h _=>exact(kj ([]) _ _ ⟨rfl,rfl,.lt t h,fun _ h=>(iS h),fun y r e=>by(injection e with a;subst a);exact d⟩)
end
section
theorem lE:∀x∈A2,x∈AL/\x≠0/\x∉[9,12,13]/\(jY.contains x=true->x∈[9,10,12,32])/\(jY.contains x=true->x∈[10,32,47,62]):=by decide
variable{W:Wk P}
section
variable{st:Addr}
theorem oo(hd:W.T.drop o=s):∀x∈s,x∈A2:=fun x a=>W.g9 x (List.mem_of_mem_drop (hd▸a))
def Ep(W:Wk P)(st:Addr)(tail:List Nat)(c:iW)(t:Option bQ):Prop:=∃c0 a b nm,Cf W c0 a b nm c t/\Tj P st c0 a (nr uC) (uC++jY)=true/\([9,10,12,32].all fun x=>VE P st c0 a x)=true/\MA P st c0 a=true/\(tail=[]->Qd P st c0 a=true)
theorem vk(u:∀x r,tail=x::r->x=60)(E:Enc [38,60] Lt tail s cc)(J:s≠[]):
  (∃s' c',s=60::s'/\cc=60::c'/\Lt (s'++tail)/\Enc [38,60] Lt tail s' c')\/∃U k c1 c2,s=U++k/\cc=c1++c2/\Enc [38,60] Lt tail k c2/\U≠[]/\c1≠[]/\c1.length<=U.length/\
   ∀t,Ep W st tail c t->∀o bT,W.T.drop o=s++tail->gm c tg bT->Sz bT o->Go W st c t (dS bT c1) tg (o+U.length)->Go W st c t bT tg o:=by
 induction E with
 |nil=>exact absurd rfl J
 |@chr x s c Z h=>
  have L:x≠38/\x≠60:=⟨fun z=>Z (z▸.head _),fun z=>Z (z▸.tail _ (.head _))⟩;clear Z J;rcases q:jY.contains x with _|_
  .refine xD (h.span (p:=fun y=>!(uC.contains y)) (fun _=>rfl) rfl u) fun w k c2 X fy G H F=>?_;clear h u;subst X
   subst fy;refine .inr (oP (x::w) k (x::w) c2 ⟨rfl,rfl,G,aZ _ _,aZ _ _,ah _,fun t K o bT hd I z hg=>(yB K fun c0 v b nm C hT g f d=>?_)⟩);have hd:W.T.drop o=x::(w++(k++tail)):=by exact eL (hd ..) (eL cons_append (eL (aw ..) rfl))
   refine zC (.inl rfl) C hT (fun i=>?_) I z hd (fun y O=>?_) (fun y r e=>?_) (eL (show o+1+w.length=o+(x::w).length by exact eL ay (cC 0x12FCC910C1C90 tt)) hg)
   .clear C hT g f d K I hg G H F;rcases bg.mp i with i|i
    .clear c0 v b nm t;rcases aU.mp i with z|i
     .exact L.1 z
     rcases aU.mp i with z|i
     .exact L.2 z
     .exact ((lE x (oo hd x (.head _))).2.1) (aB.mp i)
    .exact (aA (Eq.symm (eR (contains_iff_mem.mpr i) q))).elim
   .show (uC.contains y==false)=true;have:=H y O;clear O hd C hT g f d K I z hg G H F L;cases e:uC.contains y with
    |true=>rw [e] at this;exact(aA this).elim
    |false=>rfl
   .show (uC.contains y==false)=false;have:=F y r e;clear hd C hT g f d K I z hg G H F L;cases e:uC.contains y with
    |true=>rfl
    |false=>rw [e] at this;exact(aA (Eq.symm this)).elim
  .refine xD (h.span (p:=jY.contains) (fun _=>rfl) rfl u) fun w k c2 X fy G H F=>?_;clear L h u;subst X
   subst fy;refine .inr (oP (x::w) k (x::w) c2 ⟨rfl,rfl,G,aZ _ _,aZ _ _,ah _,fun t K o bT hd I z hg=>(yB K fun c0 v b nm C hT g f d=>?_)⟩);have hd:W.T.drop o=x::(w++(k++tail)):=by exact eL (hd ..) (eL cons_append (eL (aw ..) rfl))
   refine KL C (ak.mp g x ((lE x (oo hd x (.head _))).2.2.2.1 q)) I z hd (fun y O=>?_) (fun y r e=>?_) (eL (show o+1+w.length=o+(x::w).length by exact eL ay (cC 0x12FCC910C1C90 tt)) hg)
   .show (jY.contains y==true)=true;refine eL (H y O) ?_;rfl
   .show (jY.contains y==true)=false;refine eL (F y r e) ?_;rfl
 |@amp s c hb hn h=>
  refine .inr (oP ([38]) s ([38]) c ⟨rfl,rfl,h,aZ _ _,aZ _ _,ah _,fun t K o bT hd I z hg=>(yB K fun c0 v b nm C hT g f d=>(bY (bS f) fun V j=>?_))⟩);have hd:W.T.drop o=38::(s++tail):=hd;clear j hT g f K hb h u J;rcases q:s++tail with _|⟨a,r⟩
  .have lT:=eT hd (aZ _ _);rw [q] at hd lT;exact Oe (l:=[]) C (bS (d (List.append_eq_nil_iff.mp q).2)).1 I z hd (eR lT hg)
  .exact Mz C (ak.mp V a (hn a r q)) I z (eR q hd) hg
 |@ref rr x s c9 hb hr h=>
  refine .inr (oP rr s ([x]) c9 ⟨rfl,rfl,h,fun z=>(by refine cN (jW hr) fun r' e=>?_;rw [z] at e;exact KZ e),aZ _ _,(by refine cN (jW hr) fun r' e=>?_;exact eL e (succ_le_succ (zero_le _))),?_⟩);intro t K;refine yB K fun c0 v b nm C hT g f d=>(bY (bS f) fun V j=>(bY (bS j) fun j B=>(bY (bS B) fun B n=>(bY (bS n) fun n M=>?_))))
  have N:∀ {l} {y},(38::l,y)∈qL->l∈[vA,wL]->Xi P st c0 v l y=true->(tail=[]->Ye P st c0 v l y=true)->∀o bT,W.T.drop o=38::l++s++tail->gm c tg bT->Sz bT o->Go W st c t (dS bT [y]) tg (o+(38::l).length)->Go W st c t bT tg o:=fun {l y} _ hl e1 e2 o bT hd I z hg=>by
   clear n M B j V hT g f d K hb hr h u J;rcases q:s++tail with _|⟨a,r⟩
   .rw [aw,q,aF] at hd;exact Oe C (e2 (List.append_eq_nil_iff.mp q).2) I z hd (eR (eT hd (aZ _ _)) hg)
   .rw [aw,q] at hd;exact LS C hl e1 (lE a (oo hd a (mem_append_right _ (.head _)))).1 I z hd hg
  have e1:∀ {l m} {y a},Xq P st c0 v l (a::m) y=true->∀o bT,W.T.drop o=(38::l++a::m)++s++tail->gm c tg bT->Sz bT o->Go W st c t (dS bT [y]) tg (o+(38::l++a::m).length)->Go W st c t bT tg o:=fun {l m y a} e o bT hd I z hg=>by
   exact LM C e I z (eR (aw ..) (eR (aw ..) hd)) (eL (show o+(l.length+1)+(m.length+1)=o+(38::l++a::m).length by exact eL aa (eL ay (eL ay (dN 0x12FCCC92C910CC92CC910 tt)))) hg)
  have S:=hr;clear V C hT g f K hb h u J;rcases aU.mp hr with e|hr
  .clear e1 n M B b nm hr;(injection e with D A;subst D;subst A);exact N S (.head _) j fun z=>(bS (bS (d z)).2).1
  clear j b nm;rcases aU.mp hr with e|hr
  .clear S N M B j d hr;(injection e with D A;subst D;subst A);exact e1 n
  clear n j;rcases aU.mp hr with e|hr
  .clear e1 n M hr;(injection e with D A;subst D;subst A);exact N S (.tail _ (.head _)) B fun z=>(bS (bS (d z)).2).2
  .clear S N n B d;(injection (aB.mp hr) with D A;subst D;subst A);exact e1 M
 |lt hl h=>exact .inl (dJ _ _ ⟨rfl,rfl,hl,h⟩)
end
end
section
def nk(N:List Nat)(sc:Bool)(v:List Nat):Prop:=(∀l d a,v=47::(l++d::a)->l≠[]->(∀x∈l,gS.contains x=true)->gS.contains d=false->kf N l=true->d∉[10,32,47,62])/\(sc=true->∀a,v≠33::45::45::a)
theorem YC:∀z∈[47,62],z∈[10,32,47,62]:=by decide
theorem NP:∀a∈gS,a<128/\a≠38/\a≠60:=by decide
variable{W:Wk P}
section
theorem pU(h:Iu P k=true):(∀t,Tj P k.st iC (oH t) k.cs k.l=true/\ltB P k (oH t)=true/\Zd P k (oH t)=true/\XP P k (oH t)=true)/\(∀b,Yu P k b=true/\Vw P k b (.sym 40)=true)/\(∀x∈[10,32,47,62],Vw P k false (ch x)=true)/\Zu P k=true/\∀x∈[10,32],Yc P k x=true:=by
 refine bY (bS h) fun i c=>(bY (bS c) fun c f=>(bY (bS f) fun f g=>(bY (bS g) fun g n=>⟨fun t=>?_,fun b=>?_,fun x d=>ak.mp f x d,g,fun x d=>ak.mp n x d⟩)))
 .have q:=ak.mp i (oH t) (by rcases t with⟨⟩<;>first|exact .head _|exact .tail _ (.head _));exact bY (bS q) fun m e=>(bY (bS e) fun e a=>(bY (bS a) fun a j=>⟨m,e,a,j⟩))
 .exact bS (ak.mp c b (by rcases b with⟨⟩<;>first|exact .head _|exact .tail _ (.head _)))
theorem Xl(f:Iu P k=true)(I:∀x∈bT,x.ok tg.length 9):∀w l o,(∀x∈w,gS.contains x=true)->tQ N (l++w)->W.T.drop o=w++r->Go W k.xq (hV N) (some (tx (l++w))) bT tg (o+w.length)->Go W k.xq (hV N) (some (tx l)) bT tg o:=by
 intro w;induction w with
 |nil=>
  intro l o _ _ _ h;rw [aF] at h;exact h
 |cons a w g=>
  intro l o hw q hd h;have e:(l++[a])++w=l++a::w:=by refine eL (aw ..) ?_;rfl
  have i:tQ N l:=⟨q.ne,q.an,fun c b=>q.al c (mem_append_left _ b),q.bn,by have:=q.bl;rw [aa] at this;exact dN 0x10F2CA04F2CAC10 tt this⟩;refine Ja ((pU f).2.1 _).1 i (hw a (.head _)) I hd (g (l++[a]) (o+1) (fun x d=>hw x (.tail _ d)) (e▸q) (by refine eR br (eL (hd ..) ?_);rfl) ?_);exact eL e (eL (show o+1+w.length=o+(a::w).length by exact eL ay (cC 0x12FCC910C1C90 tt)) h)
theorem AH(B:Iu P k=true)(L:k.st=332->XM P=true)(A:N≠[]/\N.length<=100/\∀c∈N,c<128)(j:tail=60::tl)(M:nk N (k.st==332) (s++tail))(E:Enc bar (nk N (k.st==332)) tail s cc):∃X h c2,s=X++h/\cc=X++c2/\Enc bar (nk N (k.st==332)) tail h c2/\
  ∀(t:Option (List Nat)) o bT,W.T.drop o=60::s++tail->gm (hV N) tg bT->bT.length<=899->Sz bT o->(∀t':Option (List Nat),Go W k.st (hV N) (t'.map tx) (dS bT (60::X)) tg (o+(60::X).length))->Go W k.st (hV N) (t.map tx) bT tg o:=by
 have i:∃a v,s++tail=a::v:=by
  refine eL j ?_;clear B L A j M E;rcases s with _|⟨_,_⟩
  .exact dJ _ _ rfl
  .exact dJ _ _ rfl
 refine uc i fun a v i=>?_;have uZ:∀ {h c2} {x} {v},x≠38->x≠60->h++tail=x::v->Enc bar (nk N (k.st==332)) tail h c2->∃n F,h=x::n/\c2=x::F/\Enc bar (nk N (k.st==332)) tail n F/\v=n++tail:=fun {h c2 x v} h1 h2 e E=>by
  clear i B L A M;rcases h with _|⟨y,n⟩
  .rw [nil_append,j] at e;(injection e with zz;subst zz);exact absurd rfl h2
  .clear a i j;(injection e with zz zw;subst zz;subst zw);refine bW (E.uZ (fun z=>absurd z h1) h2) fun F jH D=>?_;subst jH
   exact dJ n F ⟨rfl,rfl,D,rfl⟩
 have more:∀h,∃d v,h++tail=d::v:=fun h=>by
  refine eL j ?_;clear uZ i B L A j M E;rcases h with _|⟨_,_⟩
  .exact dJ _ _ rfl
  .exact dJ _ _ rfl
 refine BL (pU B) fun S r2 r3 _ _=>?_;have U:∀ {bT},gm (hV N) tg bT->∀x∈bT,x.ok tg.length 9:=fun I=>I.ok
 by_cases H:a=47
 .subst H;refine rm (uZ (by decide) (by decide) i E) fun n F l C D V=>?_
  subst l;subst C;subst V;refine xD (D.span (p:=gS.contains) (fun _=>rfl) rfl (fun x r e=>by rw [j] at e;cases e;rfl)) fun w s4 c4 l C E4 hw hx=>?_
  subst l;subst C;refine uc (more s4) fun d J e4=>?_
  have rU:=hx d J e4;refine kj (47::w) s4 c4 ⟨rfl,rfl,E4,fun t o bT hd I hlen z hg=>?_⟩;have hd:W.T.drop o=60::47::(w++d::J):=by refine eL (hd ..) (eR e4 ?_);show 60::47::(w++s4++tail)=_;exact eL (aw ..) rfl
  rcases w with _|⟨b,w⟩
  .exact IU (kx) rfl (S t).2.2.1 rU I z hd (hg (some []))
  .have lT:=eT hd (aZ _ _);have LT:=W.hT;simp only [ay,aa] at lT;have q:tQ N (b::w):=⟨A.1,A.2.2,(fun c hc=>(NP c (contains_iff_mem.mp (hw c hc))).1:∀c∈b::w,c<128),by have:=A.2.1;exact gC 0x10F0B4B2B4BFB804F4B6B80 tt this,by exact kF 0x10F0B4B2B4BFB8CAC926F0CC9C9CC93C9214F0B1B7BA0 tt LT lT⟩;refine AY (S t).2.2.2 (hw b (.head _)) (U I) hd (Xl B (U I) w [b] (o+3) (fun x hx=>hw x (.tail _ hx)) q (by refine eL (rfl:o+3=o+(3:Nat)) (eR br (eL (hd ..) ?_));rfl) ?_);have XZ:W.T.drop (o+3+w.length)=d::J:=by exact eL (by exact cC 0x12FCC13B80C1C3B80 tt:o+3+w.length=o+(3+w.length)) (eR br (eL (hd ..) (eL (rfl:(60::47::(b::w++d::J))=(60::47::b::w)++d::J) (eL (by simp only [ay];exact gC 0x12FC9C9C90C03B8 tt:3+w.length=(60::47::b::w).length) (eL drop_left rfl)))))
   have g7:Go W k.st (hV N) (some (tx (b::w))) (dS bT (60::47::(b::w))) tg (o+3+w.length):=by
    have:=hg (some (b::w));exact eR (by simp only [ay];exact cC 0x12FC1C3B80CC9C9C910 tt:o+(60::47::b::w).length=o+3+w.length) this
   have Wy:∀a,bT.getLast?=some (.tx a)->(a++60::47::(b::w)).length<=big:=fun a ha=>by
    have:=z a ha;refine eL aa ?_;simp only [ay];exact rj 0x10F0B4B2B4BFB8CC9C9C9306F2CC9C9CC94C9314F0B1B7BA24F10 tt this LT lT
   by_cases m:d∈[10,32,47,62]
   .have sf:=eq_false_iff.mpr fun z=>M.1 (b::w) d J (by exact eL cons_append (eL (aw ..) (eL e4 rfl))) (aZ _ _) hw rU z m
    exact wq (u:=33) (by exact eL sf (r3 d m)) q (fun _=>rfl) (by decide) I Wy XZ g7
   .exact wq (r2 _).2 q (fun _=>rfl) ⟨rU,eq_false_iff.mpr fun z=>m ((lE d (oo XZ d (.head _))).2.2.2.2 z),fun z=>m (YC d z)⟩ I Wy XZ g7
 .by_cases G:k.st=332/\a=33
  .refine bY G ?_;clear G;intro Z l;subst l;have hb:=aC.mpr Z;refine rm (uZ (by decide) (by decide) i E) fun n F l C D V=>?_;subst l
   subst C;subst V;refine uc (more n) fun d v3 e3=>?_
   have xk:∀t,Ru P (oH t)=true/\RT P (oH t)=true/\Ec P 430 (oH t)=true/\Ec P 437 (oH t)=true:=fun t=>by
    have q:=ak.mp (L Z) (oH t) (by rcases t with⟨⟩<;>first|exact .head _|exact .tail _ (.head _));exact bY (bS q) fun q1 q2=>(bY (bS q2) fun q2 q3=>(bY (bS q3) fun q3 q4=>⟨q1,q2,q3,q4⟩))
   by_cases O:d=45
   .subst O;refine rm (uZ (by decide) (by decide) e3 D) fun s5 c5 l C E5 V=>?_
    clear e3 D S r2 r3 uZ i B L A j E;subst l;clear i;subst C;subst V;refine uc (more s5) fun f v5 e5=>?_
    have nf:f≠45:=fun z=>by subst z;exact M.2 hb v5 (by show 33::45::(s5++tail)=_;exact eL e5 rfl)
    refine kj ([33,45]) s5 c5 ⟨rfl,rfl,E5,fun t o bT hd I hlen z hg=>?_⟩;have hd:W.T.drop o=60::33::45::f::v5:=by refine eL (hd ..) (eR e5 ?_);rfl
    have g:=hg t;rw [Z] at g ⊢;refine GP (xk t).1 I z hd (QN (xk t).2.1 (I.add hlen) (z.add (ah 2)) (by refine eR br (eL (hd ..) ?_);rfl) (Dg (xk t).2.2.2 nf (pQ (pQ (U I))) (by refine eL (show o+2+1=o+(3:Nat) from rfl) (eR br (eL (hd ..) ?_));rfl) ?_));exact eL zD g
   .refine kj ([33]) n F ⟨rfl,rfl,D,fun t o bT hd I hlen z hg=>?_⟩;have hd:W.T.drop o=60::33::d::v3:=by refine eL (hd ..) (eR e3 ?_);rfl
    have g:=hg t;rw [Z] at g ⊢;exact GP (xk t).1 I z hd (Dg (xk t).2.2.1 O (U (I.add hlen)) (by refine eR br (eL (hd ..) ?_);rfl) g)
  .refine kj ([]) s cc ⟨rfl,rfl,E,fun t o bT hd I hlen z hg=>?_⟩;have hd:W.T.drop o=60::a::v:=by refine eL (hd ..) (eR i ?_);rfl
   refine Kh (kx) rfl (S t).2.1 (fun m=>?_) I z hd (hg t);unfold ltN at m;by_cases q:k.st=332
   .rw [aC.mpr q] at m;clear hd t I hlen z hg U S r2 r3 more uZ i B L A j M E;rcases aU.mp m with e|m
    .exact H e
    .exact G ⟨q,aB.mp m⟩
   .rw [aN.mpr q] at m;exact H (aB.mp m)
end
end
section
variable{P:Params}{W:Wk P}
section
variable{c:iW}{st:Addr}{tg:List Tg}{tail N bar:List Nat}{Lt:List Nat->Prop}{ι:Type}{tf:ι->Option bQ}
theorem Enc.nil_inv(E:Enc bar Lt tail [] d):d=[]:=by
 generalize a:([])=s at E;induction E with
 |nil=>rfl
 |ref hb hr h=>
  refine cN (jW hr) fun e b=>?_;clear hb hr h;subst b
  exact KZ a
 |_=>exact KZ a
theorem Su(unit:∀s d,Enc bar Lt tail s d->s≠[]->∃b h c1 c2,s=b++h/\d=c1++c2/\Enc bar Lt tail h c2/\b≠[]/\c1≠[]/\c1.length<=b.length/\
   ∀i o bT,W.T.drop o=s++tail->gm c tg bT->bT.length<=899->Sz bT o->(∀j,Go W st c (tf j) (dS bT c1) tg (o+b.length))->Go W st c (tf i) bT tg o):
  ∀n s d,s.length<=n->Enc bar Lt tail s d->∀i o bT w,W.T.drop o=s++tail->gm c tg bT->bT.length<=800->Sz (addW bT w) o->(∀j,Go W st c (tf j) (addW bT (w++d)) tg (o+s.length))->Go W st c (tf i) (addW bT w) tg o:=by
 intro n;induction n with
 |zero=>
  intro s d f E i o bT w hd I g z hg;clear hd I g z unit;obtain rfl:=bI.mp (le_zero.mp f);clear f;obtain rfl:=E.nil_inv;have:=hg i;rw [aF] at this;exact this
 |succ n m=>
  intro s d f E i o bT w hd I g z hg;by_cases q:s=[]
  .clear f hd I g z m unit;subst q;clear n;obtain rfl:=E.nil_inv;have:=hg i;rw [aF] at this;exact this
  .refine TV (unit s d E q) fun b h c1 c2 x A u t k p r=>?_;clear E unit;subst x
   subst A;have y:(addW bT w).length<=801:=by
    clear u t k p r f i hd I z hg m;rcases w with _|⟨a,w⟩
    .exact le_succ_of_le g
    .refine cw (qN (bT:=bT) (w:=a::w)) fun C B e _ l=>?_;show(dS bT (a::w)).length<=801
     exact eL e (eL aa (cC 0x10F1B2B3B8C914F014F0B2B3B80 tt g l))
   refine r i o (addW bT w) hd (I.addW (gC 0x10F3B8B3B804F0B2B3B80 tt g)) (gC 0x10F3B8B3B804F1B2B3B80 tt y) z fun j=>(eL (wG k) (m h c2 (by rw [aa] at f;exact dN 0x10F214FC92C105F08 tt (pos_of_ne_zero (fun z=>t (bI.mp z):b.length≠0)) f) u j (o+b.length) bT (w++c1) (eR br (eL (hd ..) (eL (aw ..) (eL drop_left rfl)))) I g (eR (wG k) (z.add p)) fun v=>?_))
   have:=hg v;exact eL (aw ..) (eL (show o+b.length+h.length=o+(b++h).length by exact eL aa (dN 0x12FCC210C2C10 tt)) this)
theorem qA(K:Ep W 297 tail c t)(d:∀x r,tail=x::r->x=60)(E:Enc [38,60] (fun _=>False) tail s a)(hd:W.T.drop o=s++tail)(I:gm c tg bT)(j:bT.length<=800)(z:Sz bT o)(hg:Go W 297 c t (addW bT a) tg (o+s.length)):Go W 297 c t bT tg o:=
 Su (fun s a E f=>by
  rcases vk d E f with⟨_,_,_,_,h,_⟩|⟨s1,s2,c1,c2,e1,e2,g,i,e,b,h⟩
  .exact h.elim
  .exact (oP s1 s2 c1 c2 ⟨e1,e2,g,i,e,b,fun _ o bT hd I _ z hg=>h t K o bT hd I z (hg ())⟩)) s.length s a (ah _) E () o bT [] hd I j z fun _=>hg
theorem PG(l:Iu P ZL=true)(K:∀t:Option (List Nat),Ep W 311 tail (hV N) (t.map tx))(k:N≠[]/\N.length<=100/\∀c∈N,c<128)(b:tail=60::y)(E:Enc [38,60] (nk N false) tail s i){t:Option (List Nat)}(hd:W.T.drop o=s++tail)(I:gm (hV N) tg bT)(g:bT.length<=800)(z:Sz bT o)
  (hg:∀u:Option (List Nat),Go W 311 (hV N) (u.map tx) (addW bT i) tg (o+s.length)):Go W 311 (hV N) (t.map tx) bT tg o:=
 Su (fun s i E j=>by
  rcases vk (fun x r e=>by rw [b] at e;cases e;rfl) E j with⟨s',A,rfl,rfl,h,n⟩|⟨a,d,c1,c2,e1,e2,f,v,q,m,h⟩
  .refine jQ (AH (tg:=tg) (W:=W) l (fun z=>nomatch z) k b h n) fun a d c2 p w f h=>?_;clear E j l K k b;subst p
   clear E;subst w;exact oP (60::a) d (60::a) c2 ⟨rfl,rfl,f,aZ _ _,aZ _ _,ah _,fun t o bT hd I g z hg=>h t o bT hd I g z hg⟩
  .exact (oP a d c1 c2 ⟨e1,e2,f,v,q,m,fun t o bT hd I _ z hg=>h (t.map tx) (K t) o bT hd I z (hg t)⟩)) s.length s i (ah _) E t o bT [] hd I g z hg
theorem zH(b:Iu P k=true)(q:k.st=332->XM P=true)(a:k.cs=nr vE/\k.l=vE)(B:N≠[]/\N.length<=100/\∀c∈N,c<128)(d:tail=60::M)(E:Enc [60] (nk N (k.st==332)) tail s n){t:Option (List Nat)}(hd:W.T.drop o=s++tail)(I:gm (hV N) tg bT)(m:bT.length<=800)(z:Sz bT o)
  (hg:∀L:Option (List Nat),Go W k.st (hV N) (L.map tx) (addW bT n) tg (o+s.length)):Go W k.st (hV N) (t.map tx) bT tg o:=
 Su (fun s n E C=>by
  induction E with
  |nil=>exact absurd rfl C
  |@chr x s O A h=>
   refine xD (h.span (p:=fun y=>!(vE.contains y)) (fun h=>by cases aB.mp h) rfl (fun x r e=>by rw [d] at e;cases e;rfl)) fun w f c2 v D j g i=>?_;clear h n E C q B d m;subst v
   clear s;subst D;refine oP (x::w) f (x::w) c2 ⟨rfl,rfl,j,aZ _ _,aZ _ _,ah _,fun t o bT hd I _ z hg=>?_⟩;have hd:W.T.drop o=x::(w++(f++tail)):=by exact eL (hd ..) (eL cons_append (eL (aw ..) rfl))
   have e:=((pU b).1 t).1;rw [a.1,a.2] at e;refine zC (.inr rfl) (kx) e (fun u=>?_) I z hd (fun y G=>?_) (fun y r e=>?_) (eL (show o+1+w.length=o+(x::w).length by exact eL ay (cC 0x12FCC910C1C90 tt)) (hg t))
   .clear e t I hg j g i b a;rcases aU.mp u with z|u
    .exact (fun z=>A (aB.mpr z):x≠60) z
    .exact ((lE x (oo hd x (.head _))).2.1) (aB.mp u)
   .show (vE.contains y==false)=true;have:=g y G;clear z G hd I hg j g i A b a;rcases e:vE.contains y with _|_
    .rfl
    .rw [e] at this;exact jD this
   .show (vE.contains y==false)=false;have:=i y r e;clear z hd I hg j g i A b a;rcases e:vE.contains y with _|_
    .rw [e] at this;exact SI this
    .rfl
  |amp hb=>cases aB.mp hb
  |ref hb=>cases aB.mp hb
  |lt h F=>
   refine jQ (AH (tg:=tg) (W:=W) b q B d h F) fun H f c2 v D J h=>?_;clear F C b q a B d;subst v
   subst D;exact(oP (60::H) f (60::H) c2 ⟨rfl,rfl,J,aZ _ _,aZ _ _,ah _,fun t o bT hd I m z hg=>h t o bT hd I m z hg⟩)) s.length s n (ah _) E t o bT [] hd I m z hg
end
end
section
set_option genCtorIdx true
def cU(p:Option Tg):iW:=match p with
 |none=>.no
 |some g=>bif g.st then .sd (tx g.nm) else .en (tx g.nm)
inductive Itm where
 |tx (t:List Nat)
 |tag (g:Tg)
noncomputable def Gi.look(tg:List Tg)(p:Option Tg)(x:Gi):Itm:=match x with
 |.tx t=>.tx t
 |.fz i=>.tag ((tg[i]?).getD ⟨true,[]⟩)
 |.cu _=>.tag (p.getD ⟨true,[]⟩)
section
variable{tg:List Tg}{p p':Option Tg}{bT:List Gi}{g:Tg}{w:List Nat}{v:Nat}{c:iW}
theorem tU(h:∀x∈bT,x.ok tg.length v)(b:p=none->∀i,Gi.cu i∉bT):(bT.map (Gi.fr tg.length)).map (Gi.look (tg++p.toList) p')=bT.map (Gi.look tg p):=by
 refine eL bh (bG fun x a=>?_);rcases x with _|i|i
 .rfl
 .have:=h _ a;show Itm.tag (((tg++p.toList)[i]?).getD _)=.tag ((tg[i]?).getD _);exact eL (aJ this) rfl
 .induction p with
  |none=>exact absurd a (b rfl i)
  |some g=>
   show Itm.tag (((tg++[g])[tg.length]?).getD _)=.tag g;refine eL (aI (ah _)) (eL (sub_self ..) ?_);rfl
theorem zP:∀i,Gi.cu i∉bT.map (Gi.fr q):=fun i h=>by
 refine bW (bL.mp h) fun y a e=>?_;clear a h;rcases y with⟨⟩<;>cases e
theorem gm.tag(h:∀x∈bT,x.ok tg.length 9)(d:bT.length<=899)(f:∀i,Gi.cu i∉bT)(b:(stays c).length=9):gm c tg (bT++[.cu 7]):=by
 refine⟨fun x a=>?_,by refine eL aa ?_;exact gC 0x10F4B8B3B8C904F3B8B3B80 tt d,fun x a=>?_,fun i hi=>?_⟩
 .refine eL b ?_;rcases bg.mp a with a|a
  .exact h x a
  .obtain rfl:=aB.mp a;show 7<9;decide
 .rw [aX] at a
  (injection a with e;subst e)
  exact .inr ⟨rfl,b⟩
 .rcases bg.mp hi with hi|hi
  .exact absurd hi (f i)
  .cases aB.mp hi;rfl
theorem tG(h:∀x∈bT,x.ok q v)(hp:p=none->∀i,Gi.cu i∉bT)(e:q=tg.length):∀x∈bT.map (Gi.fr q),x.ok (tg++p.toList).length v:=fun x a=>by
 refine bW (bL.mp a) fun y b d=>?_;clear a;subst d
 subst e;refine eL aa ?_;rcases y with _|i|i
 .exact trivial
 .exact aS (h _ b:i<tg.length) (aK _ _)
 .clear h;induction p with
  |none=>exact absurd b (hp rfl i)
  |some g=>exact bF _
theorem Sz.tag:Sz (bT++[.cu v]) o:=fun a h=>by rw [aX] at h;cases h
end
def UB(p:Option Tg)(t:Option (List Nat)):Prop:=(p=none/\t=none)\/∃N l,p=some ⟨false,N⟩/\t=some l
noncomputable def vO:List (List Nat):=[[],[32],[10]]
variable{P:Params}{W:Wk P}
section
variable{o:Nat}{tg:List Tg}{r N M gap nm l:List Nat}{t:Option (List Nat)}{bT:List Gi}{p:Option Tg}{st:Addr}{k:Raw}
theorem yb(P):(∀t,XY P (oH t)=true/\(∀x∈[10,32],XK P (oH t) x=true)/\∀a∈[360,528],∀s∈[311,325,332,339],XJ P a (oH t) s=true)/\Zk P=true:=by
 refine bY (bS (OU P)) fun f d=>⟨fun t=>?_,d⟩
 refine bY (bS (ak.mp f (oH t) (by induction t<;>first|exact .head _|exact .tail _ (.head _)))) fun g b=>?_;exact bY (bS b) fun b c=>⟨g,fun x e=>ak.mp b x e,fun a h s i=>ak.mp (ak.mp c a h) s i⟩
theorem nK(P):∀f∈dF,((Tj P 297 f.1 f.2 (nr uC) (uC++jY)=true/\([9,10,12,32].all fun x=>VE P 297 f.1 f.2 x)=true)/\MA P 297 f.1 f.2=true/\Qd P 297 f.1 f.2=true/\WO P 297 f.1 f.2=true/\WV P f.1 f.2=true):=fun f d=>by
 exact bY (bS (ak.mp (RZ P) f d)) fun e a=>(bY (bS a) fun a b=>(bY (bS b) fun b c=>(bY (bS c) fun c g=>⟨bS e,a,b,c,g⟩)))
theorem GG:∀q∈names,q.2∈[311,325,332,339]:=by decide
theorem t7(I:∀x∈bT,x.ok tg.length 9):∀w l (o:Nat),(∀x∈w,gS.contains x=true)->(l++w).length<=big->W.T.drop o=w++r->Go W 360 (.st (tx (l++w))) (t.map tx) bT tg (o+w.length)->Go W 360 (.st (tx l)) (t.map tx) bT tg o:=by
 intro w;induction w with
 |nil=>
  intro l o _ _ _ h;rw [aF] at h;exact h
 |cons a w c=>
  intro l o hw hb hd h;have e:(l++[a])++w=l++a::w:=by refine eL (aw ..) ?_;rfl
  refine UM ((yb P).1 t).1 (hw a (.head _)) (by rw [aa] at hb ⊢;rw [ay] at hb;exact dN 0x10F2C904F2CC910 tt hb) I hd (c (l++[a]) (o+1) (fun x b=>hw x (.tail _ b)) (e▸hb) (by refine eR br (eL (hd ..) ?_);rfl) ?_);exact eL e (eL (show o+1+w.length=o+(a::w).length by exact eL ay (cC 0x12FCC910C1C90 tt)) h)
theorem dr(hd:W.T.drop o=l++r):W.T.drop (o+l.length)=r:=by exact eR br (eL (hd ..) (eL drop_left rfl))
theorem we(hp:UB p t)(I:gm (cU p) tg bT)(y:bT.length<=800)(w:N≠[]/\N.length<=100/\∀x∈N,gS.contains x=true)(g:(N.map lo1,st)∈names)(hg:gap∈vO)(hd:W.T.drop o=60::N++(gap++62::r))
  (h:Go W st (.sd (tx (N.map lo1))) (t.map tx) (bT.map (Gi.fr tg.length)++[.cu 7]) (tg++p.toList) (o+1+N.length+gap.length+1)):Go W 297 (cU p) (t.map tx) bT tg o:=by
 refine bY (yb P) fun n B=>(fq w fun q f j=>?_)
 rcases N with _|⟨a,N⟩
 .exact absurd rfl q
 .have al:=fun c G=>(lE c (oo hd c (.tail _ (mem_append_left _ G)))).1
  have u:p=none->∀i,Gi.cu i∉bT:=fun z=>by subst z;exact NL I
  have v:∀x∈bT,x.ok tg.length 9:=by
   rcases hp with⟨rfl,_⟩|⟨N,l,rfl,_⟩
   .exact mN I.ok (by decide:7<=9)
   .exact I.ok
  have b:=tG v u rfl;have m:W.T.drop (o+2)=N++(gap++62::r):=by refine eR br (eL (hd ..) ?_);rfl
  have hd2:=dr m;have fin:∀s,s∈[360,528]->∀o',W.T.drop o'=62::r->Go W st (.sd (tx ((a::N).map lo1))) (t.map tx) (bT.map (Gi.fr tg.length)++[.cu 7]) (tg++p.toList) (o'+1)->Go W s (.st (tx (a::N))) (t.map tx) (bT.map (Gi.fr tg.length)) (tg++p.toList) o':=fun s D o' E F=>
   TG ((n t).2.2 s D st (GG _ g)) g al (by show(a::N).length<=10000;exact gC 0x10F0B1B7BA04F4B6B80 tt f) b (eL (aj ..) (gC 0x10F4B8B3B804F0B2B3B80 tt y)) zP E F
  have A:Go W 360 (.st (tx [a])) (t.map tx) (bT.map (Gi.fr tg.length)) (tg++p.toList) (o+2):=by
   refine t7 b N [a] (o+2) (fun x d=>j x (.tail _ d)) (by show N.length+1<=1000000;rw [ay] at f;exact gC 0x10F0B4B2B4BFB8C904F4B6B8C90 tt f) m ?_;have lo:o+1+(a::N).length=o+2+N.length:=by exact eL ay (cC 0x12FC1CA0CC91C90 tt)
   rw [lo] at h;clear lo m v u al q f j B hp I y w g hd;rcases aU.mp hg with rfl|hg
   .exact fin 360 (.head _) _ hd2 h
   have C:∀x∈[10,32],gap=[x]->Go W 360 (.st (tx ([a]++N))) (t.map tx) (bT.map (Gi.fr tg.length)) (tg++p.toList) (o+2+N.length):=fun x d e=>by
    clear hg;subst e;exact VH ((n t).2.1 x d) b hd2 (fin 528 (.tail _ (.head _)) _ (dr hd2) h)
   clear fin hd2 b n;rcases aU.mp hg with rfl|hg
   .exact C 32 (.tail _ (.head _)) rfl
   .obtain rfl:=aB.mp hg;exact C 10 (.head _) rfl
  clear fin hd2 m b v al q f n B y w g hg;rcases hp with⟨rfl,rfl⟩|⟨M,l,rfl,rfl⟩
  .have e:bT.map (Gi.fr tg.length)=bT:=(bG fun x d=>by rcases x with⟨⟩<;>first|rfl|exact absurd d (u rfl _)).trans (map_id _);exact VA ((nK P (.no,none) (.head _)).2.2.2.2) I (j a (.head _)) hd (eR (show tg++(none:Option Tg).toList=tg from aF _) (eR e A))
  .exact VS ((nK P (.en oh,some oy) (.tail _ (.head _))).2.2.2.2) I (j a (.head _)) hd A
theorem Pa(s:Iu P k=true)(I:gm (hV N) tg bT)(B:bT.length<=800)(i:N≠[]/\N.length<=100/\∀c∈N,c<128)(C:M≠[]/\M.length<=100/\∀x∈M,gS.contains x=true)(d:M.map lo1=N)(A:N.map lo1=N)(hg:gap∈vO)(hd:W.T.drop o=60::47::M++(gap++62::r))
  (h:Go W 297 (.en (tx N)) (some (tx M)) (bT.map (Gi.fr tg.length)++[.cu 7]) (tg++[⟨true,N⟩]) (o+2+M.length+gap.length+1)):Go W k.st (hV N) (t.map tx) bT tg o:=by
 refine bY (yb P) fun F w=>(BL (pU s) fun b1 b2 E u y=>(fq C fun v b g=>?_))
 clear b2 E F C;rcases M with _|⟨a,M⟩
 .exact absurd rfl v
 .have al:=fun c j=>(lE c (oo hd c (.tail _ (.tail _ (mem_append_left _ j))))).1
  have f:=I.ok;rw [ay] at b;have q:tQ N (a::M):=⟨i.1,i.2.2,(fun c j=>(NP c (contains_iff_mem.mp (g c j))).1:∀c∈a::M,c<128),by have:=i.2.1;exact gC 0x10F0B4B2B4BFB804F4B6B80 tt this,gC 0x10F0B4B2B4BFB8CAC904F4B6B8C90 tt b⟩;have sm:kf N (a::M)=true:=by unfold kf;exact eL d (eL A (bk _))
  have n:W.T.drop (o+3)=M++(gap++62::r):=by refine eR br (eL (hd ..) ?_);rfl
  have hd2:=dr n;rw [(eL ay (cC 0x12FC1C3B80CC91CA0 tt):o+2+(a::M).length=o+3+M.length)] at h;refine AY (b1 t).2.2.2 (g a (.head _)) f hd (Xl s f M [a] (o+3) (fun x m=>g x (.tail _ m)) q n ?_);clear n v g b1 s i A hd;rcases aU.mp hg with rfl|hg
  .exact RA u q sm al (gC 0x10F0B1B7BAC904F4B6B8C90 tt b) I hd2 (eL (d) h)
  have D:∀x∈[10,32],gap=[x]->Go W k.xq (hV N) (some (tx ([a]++M))) bT tg (o+3+M.length):=fun x m e=>by
   clear u hg;subst e;exact OD (y x m) q sm I hd2 (Us w al (gC 0x10F0B1B7BAC904F4B6B8C90 tt b) (tG f (fun z=>Cm z) rfl) (eL (aj ..) (gC 0x10F4B8B3B804F0B2B3B80 tt B)) zP (dr hd2) (eL (d) h))
  clear hd2 sm q f al b u y w I B d;rcases aU.mp hg with rfl|hg
  .exact D 32 (.tail _ (.head _)) rfl
  .obtain rfl:=aB.mp hg;exact D 10 (.head _) rfl
end
end
section
noncomputable def lW(c:List Nat)(l:List Itm):List Itm:=match c with
 |[]=>l
 |_=>.tx c::l
noncomputable def xV(L:List Itm)(w:List Nat):List Itm:=match L.getLast? with
 |some (.tx a)=>L.dropLast++[.tx (a++w)]
 |_=>L++[.tx w]
def wJ(L:List Itm):List Itm->List Itm
 |[]=>L
 |.tx d::r=>xV L d++r
 |.tag g::r=>L++.tag g::r
abbrev Hq:List Nat->Prop:=fun _=>False
def YO(N:List Nat)(st:Addr)(tail b d:List Nat):Prop:=(st=311/\Enc [38,60] (nk N false) tail b d)\/(st=325/\Enc [60] (nk N false) tail b d)\/(st=332/\Enc [60] (nk N true) tail b d)
structure Nm(M N:List Nat)(st:Addr):Prop where
 ne:M≠[]
 len:M.length<=100
 Jv:∀x∈M,gS.contains x=true
 low:M.map lo1=N
 name:(N,st)∈names
noncomputable abbrev Ul(M gap r:List Nat):List Nat:=60::M++(gap++62::r)
noncomputable abbrev OC(M gap r:List Nat):List Nat:=60::47::M++(gap++62::r)
inductive Pg:List Nat->List Itm->Prop
 |fin {s c:List Nat} (E:Enc [38,60] Hq [] s c):Pg s (lW c [])
 |elem {s c M g b d M' g' t N:List Nat} {st:Addr} {l:List Itm} (E:Enc [38,60] Hq (Ul M g (b++OC M' g' t)) s c) (m:Nm M N st) (m':Nm M' N st) (hg:g∈vO) (Tc:g'∈vO) (B:YO N st (OC M' g' t) b d) (h:Pg t l):Pg (s++Ul M g (b++OC M' g' t)) (lW c (.tag ⟨true,N⟩::lW d (.tag ⟨false,N⟩::l)))
 |pt {s c M g d N:List Nat} (E:Enc [38,60] Hq (Ul M g d) s c) (m:Nm M N 339) (hg:g∈vO):Pg (s++Ul M g d) (lW c (.tag ⟨true,N⟩::lW d []))
section
theorem Lu:xV (L++[.tx a]) w=L++[.tx (a++w)]:=by
 unfold xV;exact eL aX (eL dropLast_concat rfl)
theorem qH:xV (L++[.tag g]) w=L++[.tag g]++[.tx w]:=by
 unfold xV;exact eL aX rfl
theorem Fv:(dS bT w).map (Gi.look tg p)=xV (bT.map (Gi.look tg p)) w:=by
 rcases eq_nil_or_concat bT with rfl|⟨b,y,rfl⟩
 .rfl
 .refine eL concat_eq_append ?_;rcases y with a|i|i
  .exact eL pR (eL aO (eL aO Lu.symm))
  .have e:dS (b++[.fz i]) w=b++[.fz i]++[.tx w]:=by unfold dS;exact eL aX rfl
   exact eL e (eL aO (eL aO qH.symm))
  .exact eL Gy (eL (show b++[Gi.cu i,Gi.tx w]=b++[Gi.cu i]++[Gi.tx w] by refine eL (aw ..) ?_;rfl) (eL aO (eL aO qH.symm)))
theorem km(h:l=[]\/∃g r,l=.tag g::r):wJ (bT.map (Gi.look tg p)) (lW w l)=wJ ((addW bT w).map (Gi.look tg p)) l:=by
 rcases w with _|⟨a,w⟩
 .rfl
 .refine eL Fv ?_;rcases h with rfl|⟨g,r,rfl⟩
  .exact aF _
  .rfl
theorem qD:wJ (L++[.tag g]) l=L++[.tag g]++l:=by
 rcases l with _|⟨x,l⟩
 .exact (aF _).symm
 .induction x with
  |tx d=>show xV _ _++l=_;refine eL qH ?_;simp
  |tag a=>rfl
theorem zr:(lW c l).length=(lW c []).length+l.length:=by
 rcases c with _|⟨_,_⟩
 .exact (Nat.zero_add _).symm
 .exact gC 0x12FC09C90 tt
theorem ph:(lW c []).length<=1:=by rcases c with⟨⟩<;>first|exact ah _|exact zero_le _
theorem nJ:(addW bT w).length<=bT.length+(lW w []).length:=by
 rcases w with _|⟨a,w⟩
 .exact ah _
 .refine cw (qN (bT:=bT) (w:=a::w)) fun c b e _ l=>?_;show(dS bT (a::w)).length<=_
  exact eL e (eL aa (cC 0x10FC91C904F10 tt l))
theorem mT:(addW bT w).length<=bT.length+1:=ag nJ (add_le_add_left ph _)
end
theorem Li:∀q∈names,(q.1≠[]/\q.1.length<=100/\∀c∈q.1,c<128)/\q.1.map lo1=q.1:=by decide
variable{W:Wk P}
section
variable{t:Option (List Nat)}{bT:List Gi}{p:Option Tg}{st:Addr}{L:List Itm}
theorem UT(t:Option (List Nat))(c:tail≠[]):Ep W 311 tail (hV N) (t.map tx):=by
 refine bY (bS (Hd P)) fun b a=>?_;refine bY (bS (ak.mp a (oH t) (by induction t<;>first|exact .head _|exact .tail _ (.head _)))) fun d e=>?_;exact oP iC (oH t) _ _ ⟨kx,((pU b).1 t).1,d,e,fun z=>absurd z c⟩
theorem Fy(h:UB p t):Ep W 297 tail (cU p) (t.map tx):=by
 rcases h with⟨rfl,rfl⟩|⟨N,l,rfl,rfl⟩
 .exact BL (nK P (.no,none) (.head _)) fun e c d _ _=>(bY e fun a b=>(oP .no none .none .none ⟨⟨⟨rfl,rfl⟩,fun _ _=>⟨rfl,rfl⟩⟩,a,b,c,fun _=>d⟩))
 .exact BL (nK P (.en oh,some oy) (.tail _ (.head _))) fun e c d _ _=>(bY e fun a b=>(oP (.en oh) (some oy) (tx l) (tx N) ⟨⟨⟨rfl,rfl⟩,fun _ _=>⟨rfl,rfl⟩⟩,a,b,c,fun _=>d⟩))
theorem Kz(B:YO N st (OC M gap r) b d)(m:Nm M N st)(hg:gap∈vO)(I:gm (hV N) tg bT)(a:bT.length<=700)(z:Sz bT o)(hd:W.T.drop o=b++OC M gap r)
  (h:Go W 297 (.en (tx N)) (some (tx M)) ((addW bT d).map (Gi.fr tg.length)++[.cu 7]) (tg++[⟨true,N⟩]) (o+(b++60::47::M++gap++[62]).length)):Go W st (hV N) (t.map tx) bT tg o:=by
 refine bY (Li _ m.name) fun c nl=>?_;have lo:o+(b++60::47::M++gap++[62]).length=o+b.length+2+M.length+gap.length+1:=by
  simp only [aa,ay,length_nil];exact kF 0x12FC9C3C2CAC10CCC98C3CC9C9210 tt
 have en:∀ {k},Iu P k=true->∀f:Option (List Nat),Go W k.st (hV N) (f.map tx) (addW bT d) tg (o+b.length):=fun {k} g f=>
  Pa g (I.addW (gC 0x10F3B8B3B804FCBBBA0 tt a)) (ag mT (gC 0x10F0B2B3B8C904FCBBBA0 tt a)) c ⟨m.ne,m.len,m.Jv⟩ m.low nl hg (dr hd:W.T.drop (o+b.length)=60::47::M++(gap++62::r)) (eR (lo ..) h)
 refine bY (bS (Hd P)) fun e _=>?_;clear lo nl m hg;rcases B with⟨rfl,E⟩|⟨rfl,E⟩|⟨rfl,E⟩
 .exact PG e (fun t=>UT t (aZ _ _)) c rfl E hd I (gC 0x10F0B2B3B804FCBBBA0 tt a) z (en e)
 .exact zH (HO P) (fun z=>nomatch z) ⟨rfl,rfl⟩ c rfl E hd I (gC 0x10F0B2B3B804FCBBBA0 tt a) z (en (HO P))
 .exact zH (bS (qr P)).1 (fun _=>(bS (bS (qr P)).2).1) ⟨rfl,rfl⟩ c rfl E hd I (gC 0x10F0B2B3B804FCBBBA0 tt a) z (en (bS (qr P)).1)
def An(W:Wk P)(L:List Itm):Prop:=∀st p (t:Option (List Nat)) bT tg u S,bT.map (Gi.look tg p)=L->(∀x∈bT,x.ok tg.length 9)->(∀i,Gi.cu i∈bT->i=7/\p≠none)->bT.length<=900->At W.raw W.T W.T.length S->
 W.Fin (tn (X2 P).y u (fS W.pre W.D.length (bZ W.D tg))) (cV W.D bT tg++eI (bZ W.D tg) (cO st (cU p) (t.map tx) S))
theorem LA{t:List Nat}{l:List Itm}(h:Pg t l):∀(p:Option Tg) tt bT tg o,W.T.drop o=t->UB p tt->gm (cU p) tg bT->bT.length+l.length<=600->Sz bT o->An W (wJ (bT.map (Gi.look tg p)) l)->Go W 297 (cU p) (tt.map tx) bT tg o:=by
 have v:∀ {p} {tt} {bT} {tg},UB p tt->gm (cU p) tg bT->(∀x∈bT,x.ok tg.length 9)/\(p=none->∀i,Gi.cu i∉bT):=fun {p tt bT tg} hp I=>by
  rcases hp with⟨rfl,_⟩|⟨N,l,rfl,_⟩
  .exact ⟨mN I.ok (by decide:7<=9),fun _=>NL I⟩
  .exact ⟨I.ok,fun z=>Cm z⟩
 have start:∀ {p} {tt} {bT} {tg} {N},UB p tt->gm (cU p) tg bT->bT.length<=800->gm (hV N) (tg++p.toList) (bT.map (Gi.fr tg.length)++[.cu 7]):=fun {p tt bT tg N} hp I f=>
  have q:=v hp I
  gm.tag (tG q.1 q.2 rfl) (by refine eL (aj ..) ?_;exact ag f (by decide)) zP rfl
 induction h with
 |@fin s c E=>
  intro p tt bT tg o hd hp I f z F;refine qA (Fy hp) (fun x r e=>(KZ e)) E (eL (aF ..) hd) I (la f (by decide)) z ?_;rw [km (.inl rfl)] at F;have hd2:W.T.drop (o+s.length)=[]:=by exact eR br (eL (hd ..) (eL drop_length rfl))
  have j:gm (cU p) tg (addW bT c):=I.addW (la f (by decide));have q:=v hp j;have fin:=fun u D H=>F 297 p tt (addW bT c) tg u D rfl q.1 (fun i hi=>⟨j.Tb i hi,fun z=>q.2 z i hi⟩) j.len H
  clear z q j hd I f F E start v;rcases hp with⟨rfl,rfl⟩|⟨N,l,rfl,rfl⟩
  .exact DV (b:=.none) (nm:=.none) ⟨⟨rfl,rfl⟩,fun _ _=>⟨rfl,rfl⟩⟩ (nK P (.no,none) (.head _)).2.2.2.1 hd2 fin
  .exact DV ⟨⟨rfl,rfl⟩,fun _ _=>⟨rfl,rfl⟩⟩ (nK P (.en oh,some oy) (.tail _ (.head _))).2.2.2.1 hd2 fin
 |@pt s c M g d N E m hg=>
  intro p tt bT tg o hd hp I f z F;have j:gm (cU p) tg (addW bT c):=I.addW (la f (by decide));have q:=v hp j;have k:=mT (bT:=bT) (w:=c);rw [km (.inr (dJ _ _ rfl))] at F;refine qA (Fy hp) (fun x r e=>by(injection e with J zw;subst J);rfl) E hd I (la f (by decide)) z ?_;have hd2:=dr hd;refine we hp j (ag k (succ_le_succ (la f (by decide)))) ⟨m.ne,m.len,m.Jv⟩ (eL m.low m.name) hg hd2 (eL m.low ?_);have A:=start (N:=N) hp j (ag k (succ_le_succ (la f (by decide))));have n:W.T.drop (o+s.length+1+M.length+g.length+1)=d:=by
   have:W.T.drop (o+s.length)=(60::M++g++[62])++d:=by refine eL hd2 ?_;exact eL (aw ..) (eL (aw ..) rfl)
   have:=dr this;exact eL (show o+s.length+1+M.length+g.length+1=o+s.length+(60::M++g++[62]).length by simp only [aa,ay,length_nil];exact ZQ) this
  have e1:((addW bT c).map (Gi.fr tg.length)++[Gi.cu 7]).map (Gi.look (tg++p.toList) (some ⟨true,N⟩))=(addW bT c).map (Gi.look tg p)++[.tag ⟨true,N⟩]:=by refine eL aO (eL (tU q.1 q.2) ?_);rfl
  refine bY (bS (bS (bS (qr P)).2).2) fun V _=>?_;have O:=fun t=>bS (ak.mp V (oH t) (by induction t<;>first|exact .head _|exact .tail _ (.head _)))
  have fin:∀o',W.T.drop o'=[]->Go W 339 (hV N) (tt.map tx) (addW ((addW bT c).map (Gi.fr tg.length)++[.cu 7]) d) (tg++p.toList) o':=fun o' Z=>by
   have y:gm (hV N) (tg++p.toList) (addW ((addW bT c).map (Gi.fr tg.length)++[.cu 7]) d):=A.addW (by refine eL aa (eL (aj ..) ?_);show _+1<=899;exact succ_le_succ (ag k (succ_le_succ (la f (by decide)))));refine DV (kx (N:=N) (t:=tt)) (O tt).2 Z fun u D H=>F 339 (some ⟨true,N⟩) tt _ _ u D ?_ y.ok (fun i hi=>⟨y.Tb i hi,fun z=>Cm z⟩) y.len H
   have e2:=km (bT:=(addW bT c).map (Gi.fr tg.length)++[Gi.cu 7]) (tg:=tg++p.toList) (p:=some ⟨true,N⟩) (w:=d) (.inl rfl);rw [e1] at e2;show _=(addW bT c).map (Gi.look tg p)++.tag ⟨true,N⟩::lW d [];refine eL (show(addW bT c).map (Gi.look tg p)++.tag ⟨true,N⟩::lW d []=(addW bT c).map (Gi.look tg p)++[.tag ⟨true,N⟩]++lW d [] by refine eL (aw ..) ?_;rfl) (eR qD (eL e2 ?_));rfl
  clear V e1 hd2 k q j hd hp I f z F E m hg start v;rcases d with _|⟨a,w⟩
  .exact fin _ n
  .have al:=fun x hx=>(lE x (oo n x hx)).2.1
   exact Vp (N:=N) (O tt).1 (al a (.head _)) A Sz.tag n (fun X=>al 0 (.tail _ X) rfl) (fin _ (eL (show o+s.length+1+M.length+g.length+1+1+w.length=o+s.length+1+M.length+g.length+1+(a::w).length by refine eL ay ?_;exact Nat.add_right_comm _ 1 _) (eR br (eL n (eL drop_length rfl)))))
 |@elem s c M g b d C G t N st l E m m' hg Tc B h ih=>
  intro p tt bT tg o hd hp I f z F;have j:gm (cU p) tg (addW bT c):=I.addW (la f (by decide));have q:=v hp j;have k:=mT (bT:=bT) (w:=c);rw [km (.inr (dJ _ _ rfl))] at F;have F7:=nJ (bT:=bT) (w:=c);rw [zr (c:=c) (l:=_::_),ay,zr (c:=d) (l:=_::_),ay] at f;refine qA (Fy hp) (fun x r e=>by(injection e with J zw;subst J);rfl) E hd I (la f (by decide)) z ?_;have hd2:=dr hd;refine we hp j (ag k (succ_le_succ (la f (by decide)))) ⟨m.ne,m.len,m.Jv⟩ (eL m.low m.name) hg hd2 (eL m.low ?_);have A:=start (N:=N) hp j (ag k (succ_le_succ (la f (by decide))));have n:W.T.drop (o+s.length+1+M.length+g.length+1)=b++OC C G t:=by
   have:W.T.drop (o+s.length)=(60::M++g++[62])++(b++OC C G t):=by refine eL hd2 ?_;exact eL (aw ..) (eL (aw ..) rfl)
   have:=dr this;exact eL (show o+s.length+1+M.length+g.length+1=o+s.length+(60::M++g++[62]).length by simp only [aa,ay,length_nil];exact ZQ) this
  have e1:((addW bT c).map (Gi.fr tg.length)++[Gi.cu 7]).map (Gi.look (tg++p.toList) (some ⟨true,N⟩))=(addW bT c).map (Gi.look tg p)++[.tag ⟨true,N⟩]:=by refine eL aO (eL (tU q.1 q.2) ?_);rfl
  have S:((addW bT c).map (Gi.fr tg.length)++[Gi.cu 7]).length<=bT.length+2:=by refine eL aa (eL (aj ..) ?_);show _+1<=_;exact succ_le_succ k
  refine Kz B m' Tc A (ag S (Nat.add_le_add_right (la f (by decide:600<=698)) 2)) Sz.tag n ?_;have y:gm (hV N) (tg++p.toList) (addW ((addW bT c).map (Gi.fr tg.length)++[.cu 7]) d):=A.addW (ag S (Nat.add_le_add_right (la f (by decide:600<=897)) 2));have l4:=mT (bT:=(addW bT c).map (Gi.fr tg.length)++[Gi.cu 7]) (w:=d);have U:=y.ok;refine ih (some ⟨false,N⟩) (some C) _ _ _ ?_ (.inr (dJ N C ⟨rfl,rfl⟩)) (gm.tag (tG (p:=some ⟨true,N⟩) (tg:=tg++p.toList) U (fun z=>Cm z) rfl) (by refine eL (aj ..) ?_;lia) zP rfl) ?_ Sz.tag ?_
  .have:W.T.drop (o+s.length+1+M.length+g.length+1)=(b++60::47::C++G++[62])++t:=by refine eL n ?_;simp
   exact dr this
  .have C0:=nJ (bT:=(addW bT c).map (Gi.fr tg.length)++[Gi.cu 7]) (w:=d);rw [aa,aj] at C0 ⊢;have:[Gi.cu 7].length=1:=rfl;lia
  .have e2:=km (bT:=(addW bT c).map (Gi.fr tg.length)++[Gi.cu 7]) (tg:=tg++p.toList) (p:=some ⟨true,N⟩) (w:=d) (l:=[.tag ⟨false,N⟩]) (.inr (dJ _ _ rfl));rw [e1,qD] at e2;have e3:((addW ((addW bT c).map (Gi.fr tg.length)++[Gi.cu 7]) d).map (Gi.fr (tg++p.toList).length)++[Gi.cu 7]).map (Gi.look (tg++p.toList++[⟨true,N⟩]) (some ⟨false,N⟩))=(addW ((addW bT c).map (Gi.fr tg.length)++[Gi.cu 7]) d).map (Gi.look (tg++p.toList) (some ⟨true,N⟩))++[.tag ⟨false,N⟩]:=by
    exact eL aO (az (·++[Itm.tag ⟨false,N⟩]) (tU (p:=some ⟨true,N⟩) U fun z=>Cm z))
   refine eL e3 (eL qD ?_);have e4:(addW ((addW bT c).map (Gi.fr tg.length)++[Gi.cu 7]) d).map (Gi.look (tg++p.toList) (some ⟨true,N⟩))++[.tag ⟨false,N⟩]=(addW bT c).map (Gi.look tg p)++[.tag ⟨true,N⟩]++lW d [.tag ⟨false,N⟩]:=e2.symm;refine eL e4 ?_;have e5:(addW bT c).map (Gi.look tg p)++[.tag ⟨true,N⟩]++lW d [.tag ⟨false,N⟩]++l=(addW bT c).map (Gi.look tg p)++.tag ⟨true,N⟩::lW d (.tag ⟨false,N⟩::l):=by
    induction d with
    |nil=>show _++[_]++[_]++l=_++_::_::l;simp
    |cons=>show _++[_]++[_,_]++l=_++_::_::_::l;exact u6.symm
   exact eL e5 F
end
end
noncomputable def jT:List (List Nat):=[[97],[32],[10],[60],[47],[62],[60,47],[33],[45],[116,105,116,108,101],[83,84,89,76,69],[115,99,114,105,112,116],[120,109,112],[84,101,120,116,65,114,101,97],[38],[38,108,116,59],[97,109,112,59],[60,33,45,45],[45,45,62],[34],[233],[60,47,120,109,112],[60,47,83,99,114,105,112,116,62],[61]]
noncomputable def dc(a n:Nat):List AV:=(List.range n).map fun i=>.lf (.sym (a+i))
noncomputable def oI(c ct:bQ)(u:Option bQ):List (Str×AV):=("count",.lf c)::("tape",.obj 0)::("content",.lf ct)::(match u with|none=>[]|some i=>[("turn",.lf i)])
def CM(P:Params):SG:=MY (eA (bodyOf (KF P) 791) 1)
def Tv(P:Params):WS:=YR (CM P).e
def Tz(P:Params):Expr:=((Tv P).a[0]?).getD default
abbrev qE(P:Params)(l:List (Str×AV))(t:List AV):St:=dh P 791 l [.list t] 39
def c6:List Fact:=[⟨.fmod,[.sym 3,.int 24],.sym 4⟩,⟨.pick,.sym 4::jT.map tx,.sym 5⟩,⟨.add,[.sym 1,.sym 5],.sym 6⟩]
def E7(P:Params):Bool:=((List.range 12).all fun m=>qK (R3 P c6 []) (CM P).b (qE P (oI (.sym 0) (.sym 1) (some (.sym 2))) (.lf (.sym 3)::dc 7 m)) .next (oI (.sym 0) (.sym 6) (some (.sym 2))) [.list (dc 7 m)]) &&
 (qK (R3 P [] []) (CM P).b (qE P (oI (.sym 0) (.sym 1) (some (.sym 2))) []) .next (oI (.sym 0) (.sym 1) (some (.sym 2))) [.list []] &&
 ((List.range 13).all fun m=>CP (R3 P [] []) (eA (bodyOf (KF P) 791) 0) (qE P [("count",.lf (.sym 0)),("tape",.obj 0)] (dc 7 m)) (oI (.sym 0) (tx []) none) [.list (dc 7 m)] &&
  ([none,some (.sym 2)].all fun u=>kS (R3 P [] []) ((bodyOf (KF P) 791).drop 2) (qE P (oI (.sym 0) (.sym 1) u) (dc 7 m)) (.ret (.lf (.sym 1))) [.list (dc 7 m)]&&Eo (R3 P [] []) (Tz P) (qE P (oI (.sym 0) (.sym 1) u) (dc 7 m)) (.lf (.sym 0)))))
theorem Sf(P):E7 P=true:=by kernel_rfl
theorem IY(P):bodyOf (KF P) 791=eA (bodyOf (KF P) 791) 0::.For (.Name "turn" (CM P).py) (.Call (.Name "range" (OZ (Tv P).f)) [Tz P] [] (Tv P).p) (CM P).b [] (CM P).p::(bodyOf (KF P) 791).drop 2:=by kernel_rfl
theorem tS(P):(mH (KF P) 791).names.lookup ("turn" : Str)=some .local/\plainArg (Tz P)=true/\fE (.Call (.Name "range" (OZ (Tv P).f)) [Tz P] [] (Tv P).p)=true:=⟨by kernel_rfl,by kernel_rfl,by kernel_rfl⟩
theorem Qa(P)(c ct)(u)(t):(R3 P [] []).ev (.Name "range" (OZ (Tv P).f)) (qE P (oI c ct u) t)=some (.top (.type "range"),qE P (oI c ct u) t):=by rcases u with _|u<;>kernel_rfl
theorem Qu(c ct i)(u):put "turn" (.lf i) (oI c ct u)=oI c ct (some i):=by rcases u with _|u<;>kernel_rfl
section
variable{ts:List Nat}
theorem gu(w)(a:0<k):ew .fmod [int w,int k]=some (int (w%k)):=by
 show(bif decide ((0:Int)<(k:Int)) then some (bQ.int ((w:Int).fmod k)) else none)=_;refine eL (bo (Int.natCast_pos.mpr a)) (eL (Int.fmod_eq_emod_of_nonneg _ (natCast_nonneg k)) ?_);rfl
theorem iK(w)(a:0<k)(hb:k<=1000000):ew .fdiv [int w,int k]=some (int (w/k)):=by
 show(bif decide ((0:Int)<(k:Int))&&decide ((k:Int)<=((1000000:Nat))) then some (bQ.int ((w:Int).fdiv k)) else none)=_;refine eL (bo (Int.natCast_pos.mpr a)) (eL (bo (ofNat_le.mpr hb)) (eL (Int.fdiv_eq_ediv_of_nonneg _ (natCast_nonneg k)) ?_));rfl
theorem KI(h:j<ls.length)(hb:j<1000):ew .pick (int j::ls)=ls[j]?:=by
 have e:∀y i,lint y=some i->WZ (y::ls)=bif Bw i then(seqIndex? i ls.length).bind fun k=>ls[k]? else none:=fun y i h=>by unfold WZ;dsimp only;exact eL h (eL (bind_some ..) rfl)
 refine eL (by rfl:ew .pick (int j::ls)=WZ (int j::ls)) (eL (e _ _ rfl) ?_);have b:seqIndex? (j:Int) ls.length=some j:=by unfold seqIndex?;rw [if_neg iz];simp;assumption
 have a:Bw (j:Int)=true:=by unfold Bw;rw [bo m3,bo (Vv (le_of_lt (Nat.lt_trans hb (by decide))))];rfl
 exact eL a (eL Bool.cond_true (eL b (eL (bind_some ..) rfl)))
def jG(ts:List Nat):List AV:=ts.map fun n=>.lf (int n)
theorem MJ:subs θ (jG ts)=jG ts:=by
 refine eL (cP ..) (eL bh ?_);rfl
theorem qj:subs (cT (L++ts.map int)) (dc L.length ts.length)=jG ts:=by
 refine eL (cP ..) (eL bh (ext_getElem? fun i=>(eL aH (eL aH ?_))));rcases aV i ts.length with h|h
 .refine eL (getElem?_range h) (eL (ao h) ?_);show some (AV.lf (cT (L++ts.map int) (L.length+i)))=_;unfold cT;refine eL (aI (aK _ _)) (eL (ba ..) (eL aH (eL (ao h) ?_)));rfl
 .refine eL (aT (eL length_range h)) (eL (aT h) ?_);rfl
theorem mF(h:L.all isLit=true):(L++ts.map int).all isLit=true:=by
 exact eL all_append (eL h (eL all_map (ak.mpr fun _ _=>rfl)))
end
def fO(n:Nat):List Nat:=(jT[n%24]?).getD []
def gP(ts:List Nat)(k:Nat):List Nat:=(ts.take k).flatMap fO
theorem lP:∀l∈jT,l.length<=10/\∀c∈l,c∈A2/\c≠13:=by decide+kernel
theorem mj(n):fO n∈jT:=by
 unfold fO;exact eL (ao (mod_lt _ (by decide))) (List.getElem_mem _)
theorem wH:∀ts:List Nat,(ts.flatMap fO).length<=10*ts.length:=by
 intro ts;induction ts with
 |nil=>exact ah _
 |cons n ts a=>
  exact eL flatMap_cons (eL aa (eL ay (eL (mul_succ ..) (eL (Nat.add_comm ..) (add_le_add a (lP _ (mj n)).1)))))
section
abbrev OA(P:Params)(c:Nat)(ct:List Nat)(u:Option Nat)(ts:List Nat):St:=qE P (oI (int c) (tx ct) (u.map int)) (jG ts)
theorem tF(P):(∀m<12,qK (R3 P c6 []) (CM P).b (qE P (oI (.sym 0) (.sym 1) (some (.sym 2))) (.lf (.sym 3)::dc 7 m)) .next (oI (.sym 0) (.sym 6) (some (.sym 2))) [.list (dc 7 m)]=true)/\
  qK (R3 P [] []) (CM P).b (qE P (oI (.sym 0) (.sym 1) (some (.sym 2))) []) .next (oI (.sym 0) (.sym 1) (some (.sym 2))) [.list []]=true/\
  ∀m<13,CP (R3 P [] []) (eA (bodyOf (KF P) 791) 0) (qE P [("count",.lf (.sym 0)),("tape",.obj 0)] (dc 7 m)) (oI (.sym 0) (tx []) none) [.list (dc 7 m)]=true/\
   ∀u∈[none,some (.sym 2)],kS (R3 P [] []) ((bodyOf (KF P) 791).drop 2) (qE P (oI (.sym 0) (.sym 1) u) (dc 7 m)) (.ret (.lf (.sym 1))) [.list (dc 7 m)]=true/\Eo (R3 P [] []) (Tz P) (qE P (oI (.sym 0) (.sym 1) u) (dc 7 m)) (.lf (.sym 0))=true:=
 have k:=bS (Sf P);have a:=bS k.2
 ⟨fun m h=>ak.mp k.1 m (bJ.mpr h),a.1,fun m h=>
  have q:=bS (ak.mp a.2 m (bJ.mpr h))
  ⟨q.1,fun u c=>bS (ak.mp q.2 u c)⟩⟩
abbrev Ca(c:Nat)(ct:List Nat)(u:Nat)(n:bQ)(ts:List Nat)(r:List bQ):List bQ:=([int c,tx ct,int u,n]++r)++ts.map int
variable(G:Good (cx P Z))
include G
theorem KY(f:ts.length<=12)(k:ct.length<=1000):dz (cx P Z) (CM P).b (OA P c ct (some i) ts) .next (OA P c (ct++gP ts 1) (some i) (ts.drop 1)):=by
 rcases ts with _|⟨n,ts⟩
 .exact eL (aF ct) (gH G (gK (L:=[int c,tx ct,int i]) rfl bR bU) (tF P).2.1)
 .have e:gP (n::ts) 1=fO n:=aF _;have m:=mj n;have z:=gH G (gK (L:=Ca c ct i (int n) ts [int (n%24),tx (fO n),tx (ct++fO n)]) (mF rfl) (bP (gu n (by decide)) (bP (by
   show ew .pick (int (n%24)::(jT.map tx).map (bQ.sub _))=some (tx (fO n));have a:n%24<jT.length:=mod_lt _ (by decide);refine eL (show(jT.map tx).map (bQ.sub _)=jT.map tx by refine eL bh ?_;rfl) (eL (KI (eL (aj ..) a) (Nat.lt_trans a (by decide))) (eL aH ?_));unfold fO;refine eL (ao a) ?_;rfl) (bP (fX (by exact eL aa (ag (add_le_add k ((lP _ (mj n)).1)) (by decide)))) bR))) bU) ((tF P).1 ts.length (f:ts.length<12))
  refine eL e ?_;have d:subs (cT (Ca c ct i (int n) ts [int (n%24),tx (fO n),tx (ct++fO n)])) (dc 7 ts.length)=jG ts:=qj;have h:∀l,St.sub (cT (Ca c ct i (int n) ts [int (n%24),tx (fO n),tx (ct++fO n)])) (qE P l (dc 7 ts.length))=qE P (cY (cT (Ca c ct i (int n) ts [int (n%24),tx (fO n),tx (ct++fO n)])) l) (jG ts):=fun l=>by
   show(⟨_,_,[AO.list (subs _ (dc 7 ts.length))],_⟩:St)=_;exact eL d rfl
  have j:St.sub (cT (Ca c ct i (int n) ts [int (n%24),tx (fO n),tx (ct++fO n)])) (qE P (oI (.sym 0) (.sym 1) (some (.sym 2))) (.lf (.sym 3)::dc 7 ts.length))=OA P c ct (some i) (n::ts):=by
   show(⟨_,_,[AO.list (.lf (int n)::subs _ (dc 7 ts.length))],_⟩:St)=_;refine eL d ?_;rfl
  have g:=h (oI (.sym 0) (.sym 6) (some (.sym 2)));rw [j,show St.to _ _ _=qE P (oI (.sym 0) (.sym 6) (some (.sym 2))) (dc 7 ts.length) from rfl,g] at z;exact z
theorem VG:∀(k i:Nat) (ts ct:List Nat) u,i+k=c->ts.length<=12->ct.length+10*k<=1000->
  ∃f,Dc (cx P Z) (.Name "turn" (CM P).py) (CM P).b k (.IB i c) (OA P c ct u ts) .next (OA P c (ct++gP ts k) f (ts.drop k)):=by
 intro k;induction k with
 |zero=>
  intro i ts ct u hi d a;refine⟨u,(eL (aF ct) (.stop ?_ rfl rfl))⟩;show some (bif Nat.blt i c then _ else none)=_;refine eL (show Nat.blt i c=false from eq_false_iff.mpr fun z=>lt_irrefl i (by have:=blt_eq.mp z;rwa [<-hi] at this)) ?_;rfl
 |succ k j=>
  intro i ts ct u hi d a;have g:(gP ts 1).length<=10:=by
   exact ag (wH (ts.take 1)) (mul_le_mul_left 10 (m:=1) (eL bE (min_le_left _ _)))
  have e:ct++gP ts (k+1)=(ct++gP ts 1)++gP (ts.drop 1) k:=by
   refine eL (aw ..) ?_;congr 1;clear g u hi d a j;rcases ts with _|⟨n,ts⟩
   .clear i ct;rcases k with _|k<;>rfl
   .show fO n++gP ts k=(fO n++[])++gP ts k;exact eL (aF ..) rfl
  refine cN (j (i+1) (ts.drop 1) (ct++gP ts 1) (some i) (by exact eR hi (eL (Nat.add_assoc ..) (eL (Nat.add_comm 1 ..) rfl))) (by exact eL bw (ag (sub_le _ _) d)) (by exact eL aa (dN 0x10F8BEB3B8CD2AB8C014F8BEB3B8CDC92AB814FAB80 tt g a))) fun f h=>⟨f,(eL e (eL (show ts.drop (k+1)=(ts.drop 1).drop k by exact eL br (eL (Nat.add_comm ..) rfl)) (.turn (x:=.lf (int i)) ?_ ?_ (KY G d (by exact cC 0x10F8BEB3B804F8BEB3B8CDC91AB80 tt a)) (.inl rfl) h)))⟩
  .show some (bif Nat.blt i c then _ else none)=_;refine eL (blt_eq.mpr (hi▸Nat.lt_add_of_pos_right (succ_pos k))) ?_;rfl
  .have:=zY.name (C:=cx P Z) (py:=(CM P).py) (x:=.lf (int i)) (σ:=OA P c ct u ts) (tS P).1;rw [Qu] at this;exact this
theorem Rm(d:ts.length<=12)(i:c<=20):cG (cx P Z) (bodyOf (KF P) 791) (qE P [("count",.lf (int c)),("tape",.obj 0)] (jG ts)) (.ret (.lf (tx (gP ts c)))) [.list (jG (ts.drop c))]:=by
 refine cN (VG G c 0 ts [] none (Nat.zero_add c) d (ag (Nat.le_of_eq (Nat.zero_add _)) (ag (mul_le_mul_left 10 i) (by decide)))) fun a h=>?_;have g:=(tF P).2.2 ts.length (Nat.lt_succ_of_le d)
 have a0:=pP G (gK (L:=Ca c [] 0 .none ts [.none,.none,.none]) (mF rfl) bR bU) g.1;have j:=rT G (gK (L:=Ca c [] 0 .none ts [.none,.none,.none]) (mF rfl) bR bU) (g.2 none (.head _)).2;have e:=tX G (S:=gK (L:=[]) rfl bR bU) (Qa P (int c) (tx []) none (jG ts));have m:subs (cT (Ca c [] 0 .none ts [.none,.none,.none])) (dc 7 ts.length)=jG ts:=qj;have b:∀l,St.sub (cT (Ca c [] 0 .none ts [.none,.none,.none])) (qE P l (dc 7 ts.length))=qE P (cY (cT (Ca c [] 0 .none ts [.none,.none,.none])) l) (jG ts):=fun l=>by
  show(⟨_,_,[AO.list (subs _ (dc 7 ts.length))],_⟩:St)=_;exact eL m rfl
 have k:St.sub (cT []) (qE P (oI (int c) (tx []) none) (jG ts))=OA P c [] none ts:=by
  show(⟨_,_,[AO.list (subs _ (jG ts))],_⟩:St)=_;refine eL MJ ?_;rfl
 rw [b,show St.to _ _ _=qE P (oI (.sym 0) (tx []) none) (dc 7 ts.length) from rfl,b] at a0;rw [b] at j;rw [k] at e;refine eL (IY ..) (cG.cons a0 (cG.cons (lA.yc (tS P).2.2 (yK.range e (tS P).2.1 j (gC 0x10F0B4B2B4BFB804F4B90 tt i)) h) ?_));have kd:=((tF P).2.2 (ts.drop c).length (by rw [bw];exact cC 0x11FDB814F014FCB80 tt d (sub_le _ _))).2 (a.map fun _=>.sym 2) (by rcases a with _|a<;>first|exact .head _|exact .tail _ (.head _));have f:subs (cT (Ca c (gP ts c) (a.getD 0) .none (ts.drop c) [.none,.none,.none])) (dc 7 (ts.drop c).length)=jG (ts.drop c):=qj;have o:St.sub (cT (Ca c (gP ts c) (a.getD 0) .none (ts.drop c) [.none,.none,.none])) (qE P (oI (.sym 0) (.sym 1) (a.map fun _=>.sym 2)) (dc 7 (ts.drop c).length))=OA P c (gP ts c) a (ts.drop c):=by
  show(⟨_,_,[AO.list (subs _ (dc 7 (ts.drop c).length))],_⟩:St)=_;refine eL f ?_;clear f kd k b m e j a0 g h d i;rcases a with _|a<;>rfl
 have n:[AO.list (dc 7 (ts.drop c).length)].map (AO.sub (cT (Ca c (gP ts c) (a.getD 0) .none (ts.drop c) [.none,.none,.none])))=[AO.list (jG (ts.drop c))]:=by
  show[AO.list (subs _ (dc 7 (ts.drop c).length))]=_;exact eL f rfl
 exact eR n (eR o (dO G (gK (mF rfl) bR bU) kd.1))
end
noncomputable def BF:List (List Nat):=[[115,116,121,108,101],[115,99,114,105,112,116],[120,109,112]]
noncomputable def xm(n c:bQ)(r:List (Str×AV)):List (Str×AV):=("name",.lf n)::("content",.lf c)::r
noncomputable def oG(a:bQ)(k:Option bQ):List (Str×AV):=("size",.lf a)::(match k with|none=>[]|some i=>[("k",.lf i)])
def Iw(P:Params):SG:=MY (eA (bodyOf (KF P) 798) 1)
def Tp(P:Params):WS:=YR (Iw P).e
def Ue(P:Params):Expr:=((Tp P).a[0]?).getD default
abbrev DN(P:Params)(l:List (Str×AV)):St:=dh P 798 l [] 39
noncomputable def JK(x y:bQ)(d:Nat):Ent:=⟨779,[("text",.lf x)],[],[],d,.ret (.lf y),[],none⟩
noncomputable def qa:List Nat:=[115,99,114,105,112,116]
noncomputable def Ou:List Nat:=[60,33,45,45]
noncomputable def xP:List Nat:=[32,10,47,62]
def XO(n:List Nat)(b1 b2 a:Bool):List Fact:=(bif n==qa then[⟨.add,[.sym 1,.int 4],.sym 2⟩,⟨.slice,[.sym 0,.sym 1,.sym 2],.sym 3⟩,⟨.eq,[.sym 3,tx Ou],.bool b1⟩] else[])++
 [⟨.add,[.sym 1,int (2+n.length)],.sym 4⟩,⟨.slice,[.sym 0,.sym 1,.sym 4],.sym 5⟩,⟨.eq,[.sym 6,tx (60::47::n)],.bool b2⟩,⟨.add,[.sym 4,.int 1],.sym 7⟩,⟨.slice,[.sym 0,.sym 4,.sym 7],.sym 8⟩,⟨.mem,.sym 8::xP.map ch,.bool a⟩,⟨.slice,[.sym 0,.none,.sym 1],.sym 9⟩]
def ZT(P:Params)(n:List Nat)(b1 b2 a:Bool):Bool:=let σ:=DN P (xm (tx n) (.sym 0) (oG (int (2+n.length)) (some (.sym 1))))
 qK (R3 P (XO n b1 b2 a) [JK (.sym 5) (.sym 6) 38]) (Iw P).b σ (bif (b1&&n==qa)||(b2&&a) then .ret (.lf (.sym 9)) else .next) σ.loc []
def z4(P:Params):Bool:=BF.all fun n=>([true,false].all fun b1=>[true,false].all fun b2=>[true,false].all fun a=>ZT P n b1 b2 a) &&
 (CP (R3 P [] []) (eA (bodyOf (KF P) 798) 0) (DN P (xm (tx n) (.sym 0) [])) (xm (tx n) (.sym 0) (oG (int (2+n.length)) none)) [] &&
 ([none,some (.sym 1)].all fun u=>kS (R3 P [] []) ((bodyOf (KF P) 798).drop 2) (DN P (xm (tx n) (.sym 0) (oG (int (2+n.length)) u))) (.ret (.lf (.sym 0))) []&&Eo (R3 P [⟨.len,[.sym 0],.sym 2⟩] []) (Ue P) (DN P (xm (tx n) (.sym 0) (oG (int (2+n.length)) u))) (.lf (.sym 2))))
theorem PT(P):z4 P=true:=by kernel_rfl
theorem Le(P):bodyOf (KF P) 798=eA (bodyOf (KF P) 798) 0::.For (.Name "k" (Iw P).py) (.Call (.Name "range" (OZ (Tp P).f)) [Ue P] [] (Tp P).p) (Iw P).b [] (Iw P).p::(bodyOf (KF P) 798).drop 2:=by kernel_rfl
theorem uu(P):(mH (KF P) 798).names.lookup ("k" : Str)=some .local/\plainArg (Ue P)=true/\fE (.Call (.Name "range" (OZ (Tp P).f)) [Ue P] [] (Tp P).p)=true:=⟨by kernel_rfl,by kernel_rfl,by kernel_rfl⟩
theorem Sd(P)(n c a):(R3 P [] []).ev (.Name "range" (OZ (Tp P).f)) (DN P (xm n c (oG a none)))=some (.top (.type "range"),DN P (xm n c (oG a none))):=by kernel_rfl
theorem RP(n c a i)(u):put "k" (.lf i) (xm n c (oG a u))=xm n c (oG a (some i)):=by rcases u with _|u<;>kernel_rfl
def Ig(n v:List Nat):Bool:=xP.any fun c=>(v.drop (2+n.length)).take 1==[c]
noncomputable def ri(n v:List Nat):Bool:=(v.take (2+n.length)).map lo1==60::47::n
def kQ(n v:List Nat):Bool:=((v.take 4==Ou)&&n==qa)||(ri n v&&Ig n v)
noncomputable def jb(n:List Nat):List Nat->List Nat
 |[]=>[]
 |c::r=>bif kQ n (c::r) then[] else c::jb n r
section
theorem cG.out(a:lA C s σ (.ret v) g):cG C (s::b) σ (.ret v) []:=fun F Ω H=>ai (nu (a F Ω H) fun c f e H1 q=>by
 cases q with
 |ret _ u q=>exact aL (⟨c,⟨e,fun i o z=>(cX z),H1.rel.old,H1.rel.toks,.ret _ u q⟩,rfl⟩:∃d,PE C F.L Ω d [] (.ret v) (.ret u)/\d.s=c.s))
theorem QQ:∀l:List Nat,oJ (tx d) (l.map ch)=some (l.any fun c=>d==[c]):=by
 intro l;induction l with
 |nil=>rfl
 |cons b l a=>
  show(CO (ch b) (tx d)).bind (fun x=>(oJ (tx d) (l.map ch)).map fun y=>x||y)=_;have e:CO (ch b) (tx d)=some (d==[b]):=by
   have:=mq (l:=[b]) (m:=d);rw [show([b]==d)=(d==[b]) from Bool.eq_iff_iff.mpr ⟨fun h=>aC.mpr (aC.mp h).symm,fun h=>aC.mpr (aC.mp h).symm⟩] at this;cases q:CO (ch b) (tx d) with
   |none=>rw [show ew .eq [tx [b],tx d]=(CO (ch b) (tx d)).map .bool from rfl,q] at this;exact cX this
   |some x=>rw [show ew .eq [tx [b],tx d]=(CO (ch b) (tx d)).map .bool from rfl,q] at this;cases this;rfl
  refine eL e (eL a ?_);rfl
theorem Rd(l:List Nat):ew .mem (tx d::l.map ch)=some (.bool (l.any fun c=>d==[c])):=by
 show(oJ (tx d) (l.map ch)).map bQ.bool=_;refine eL (QQ ..) ?_;rfl
theorem EE(hT:(p++l).length<=big):ew .slice [tx (p++l),int p.length,int (p.length+n)]=some (tx (l.take n)):=by
 exact eL (pj hT) (eL drop_take (eL drop_left (eL (ba ..) rfl)))
theorem MU(hT:(p++l).length<=big):ew .slice [tx (p++l),int (p.length+i),int (p.length+i+n)]=some (tx ((l.drop i).take n)):=by
 refine eL (pj hT) (eL drop_take (eL (ba ..) (eL List.drop_append (eL (drop_eq_nil_of_le (aK _ _)) (eL (ba ..) ?_)))));rfl
end
section
abbrev Tt(P:Params)(N T:List Nat)(u:Option Nat):St:=DN P (xm (tx N) (tx T) (oG (int (2+N.length)) (u.map int)))
theorem EG(P:Params)(f:N∈BF):(∀b1 b2 a,ZT P N b1 b2 a=true)/\CP (R3 P [] []) (eA (bodyOf (KF P) 798) 0) (DN P (xm (tx N) (.sym 0) [])) (xm (tx N) (.sym 0) (oG (int (2+N.length)) none)) []=true/\
  ∀u∈[none,some (.sym 1)],kS (R3 P [] []) ((bodyOf (KF P) 798).drop 2) (DN P (xm (tx N) (.sym 0) (oG (int (2+N.length)) u))) (.ret (.lf (.sym 0))) []=true/\Eo (R3 P [⟨.len,[.sym 0],.sym 2⟩] []) (Ue P) (DN P (xm (tx N) (.sym 0) (oG (int (2+N.length)) u))) (.lf (.sym 2))=true:=
 have k:=bS (ak.mp (PT P) N f);have d:=bS k.2;have c:=fun b=>by induction b<;>decide
 ⟨fun b1 b2 a=>ak.mp (ak.mp (ak.mp k.1 b1 (c b1)) b2 (c b2)) a (c a),d.1,fun u e=>bS (ak.mp d.2 u e)⟩
abbrev Ti(N p v:List Nat):List bQ:=[tx (p++v),int p.length,int (p.length+4),tx (v.take 4),int (p.length+(2+N.length)),tx (v.take (2+N.length)),tx ((v.take (2+N.length)).map lo1),int (p.length+(2+N.length)+1),tx ((v.drop (2+N.length)).take 1),tx p]
variable(G:Good (cx P Z))(hN:N∈BF)
include G hN
theorem Jo(g:∀c∈v,c∈AL)(a:(p++v).length<=10000):dz (cx P Z) (Iw P).b (Tt P N (p++v) (some p.length)) (bif kQ N v then .ret (.lf (tx p)) else .next) (Tt P N (p++v) (some p.length)):=by
 have hb:(p++v).length<=big:=ag a (by decide);have d:Facts (cT (Ti N p v)) [⟨.add,[.sym 1,int (2+N.length)],.sym 4⟩,⟨.slice,[.sym 0,.sym 1,.sym 4],.sym 5⟩,⟨.eq,[.sym 6,tx (60::47::N)],.bool (ri N v)⟩,⟨.add,[.sym 4,.int 1],.sym 7⟩,⟨.slice,[.sym 0,.sym 4,.sym 7],.sym 8⟩,⟨.mem,.sym 8::xP.map ch,.bool (Ig N v)⟩,⟨.slice,[.sym 0,.none,.sym 1],.sym 9⟩]:=
  bP rfl (bP (EE hb) (bP mq (bP rfl (bP (MU (i:=2+N.length) (n:=1) hb) (bP (by
   refine eL (rfl:(xP.map ch).map (bQ.sub (cT (Ti N p v)))=xP.map ch) ?_;exact Rd xP) (bP (by
   show ew .slice [tx (p++v),.none,int p.length]=some (tx p);exact eL (JD hb) (eL take_left rfl)) bR))))))
 have j:Facts (cT (Ti N p v)) (XO N (v.take 4==Ou) (ri N v) (Ig N v)):=by
  refine dI ?_ d;cases N==qa with
  |false=>exact bR
  |true=>exact bP rfl (bP (EE hb) (bP mq bR))
 have en:dT ((cx P Z).sy (cT (Ti N p v)) (XO N (v.take 4==Ou) (ri N v) (Ig N v))) [JK (.sym 5) (.sym 6) 38]:=
  cg (eO (lL rfl) rfl rfl rfl rfl rfl (Dz G (f:=779) (.tail _ (.head _)) (fun c h=>g c (List.mem_of_mem_take h)) (by rw [bE,aa] at *;exact dN 0x10F0B1B7BA24F124F0B1B7BAC10 tt a (bO _ _)) (by decide:20<=38))) bU
 have e:Fl.sub (cT (Ti N p v)) (bif ((v.take 4==Ou)&&N==qa)||(ri N v&&Ig N v) then .ret (.lf (.sym 9)) else .next)=bif ((v.take 4==Ou)&&N==qa)||(ri N v&&Ig N v) then .ret (.lf (tx p)) else .next:=by
  cases ((v.take 4==Ou)&&N==qa)||(ri N v&&Ig N v)<;>rfl
 exact eR e (gH G (gK (L:=Ti N p v) rfl j en) ((EG P hN).1 (v.take 4==Ou) (ri N v) (Ig N v)))
theorem Vz:∀(v p:List Nat) (u:Option Nat),T=p++v->(∀c∈v,c∈AL)->T.length<=10000->
  ∃a fl,Dc (cx P Z) (.Name "k" (Iw P).py) (Iw P).b v.length (.IB p.length T.length) (Tt P N T u) fl (Tt P N T a)/\((fl=.next/\jb N v=v)\/fl=.ret (.lf (tx (p++jb N v)))):=by
 intro v;induction v with
 |nil=>
  intro p u e _ _;refine dJ u .next ⟨.stop ?_ rfl rfl,.inl ⟨rfl,rfl⟩⟩;show some (bif Nat.blt p.length T.length then _ else none)=_;refine eL e (eL (aF ..) (eL (show Nat.blt p.length p.length=false from eq_false_iff.mpr fun z=>lt_irrefl _ (blt_eq.mp z)) ?_));rfl
 |cons c v l=>
  intro p u e f i;have d:kW (.IB p.length T.length) (Tt P N T u)=some (some (.lf (int p.length),.IB (p.length+1) T.length)):=by
   show some (bif Nat.blt p.length T.length then _ else none)=_;refine eL (show Nat.blt p.length T.length=true from blt_eq.mpr (by exact eL e (eL aa (Nat.lt_add_of_pos_right (succ_pos _))))) ?_;rfl
  have as:=zY.name (C:=cx P Z) (py:=(Iw P).py) (x:=.lf (int p.length)) (σ:=Tt P N T u) (uu P).1;rw [RP] at as;have t:=Jo (v:=c::v) (p:=p) G hN f (e▸i);rw [<-e] at t;refine eL (show jb N (c::v)=bif kQ N (c::v) then[] else c::jb N v from rfl) ?_;cases q:kQ N (c::v) with
  |true=>
   rw [q] at t;exact dJ (some p.length) _ ⟨.out d as t rfl,.inr (by exact eL Bool.cond_true (eL (aF ..) rfl))⟩
  |false=>
   rw [q] at t;refine eL Bool.cond_false (eF (l (p++[c]) (some p.length) (by refine eL e (eL (aw ..) ?_);rfl) (fun x k=>f x (.tail _ k)) i) fun a fl g j=>(dJ a fl ⟨.turn d as t (.inl rfl) (by rw [aa] at g;exact g),?_⟩));refine j.elim (fun h=>.inl ⟨h.1,az _ h.2⟩) fun h=>.inr ?_
   refine eL h (eL (aw ..) ?_);rfl
theorem WH(f:∀c∈T,c∈AL)(b:T.length<=10000):cG (cx P Z) (bodyOf (KF P) 798) (DN P (xm (tx N) (tx T) [])) (.ret (.lf (tx (jb N T)))) []:=by
 have d:=(EG P hN).2;refine eL (Le ..) (eF (Vz (T:=T) G hN T [] none rfl f b) fun a fl h g=>cG.cons (pP G (gK (L:=[tx T]) rfl bR bU) d.1) ?_);have ts:=lA.yc (pos:=(Iw P).p) (uu P).2.2 (yK.range (tX G (S:=gK (L:=[]) rfl bR bU) (Sd P (tx N) (tx T) (int (2+N.length)))) (uu P).2.1 (rT G (gK (L:=[tx T,.none,int T.length]) rfl (bP kY bR) bU) (d.2 none (.head _)).2) (by have:T.length<=10000:=b;exact gC 0x10F0B4B2B4BFB804F0B1B7BA0 tt b)) h;clear h f b;rcases g with⟨rfl,e⟩|rfl
 .refine cG.cons ts ?_;have z:=dO G (gK (L:=[tx T,int (a.getD 0)]) rfl bR bU) (d.2 (a.map fun _=>.sym 1) (by rcases a with _|a<;>first|exact .head _|exact .tail _ (.head _))).1;refine eL e ?_;clear ts d;rcases a with _|a<;>exact z
 .exact cG.out ts
end
noncomputable def Rg:List Nat:=[116,105,116,108,101]
noncomputable def OS:List Nat:=[116,101,120,116,97,114,101,97]
noncomputable def eN:List Nat:=[112,108,97,105,110,116,101,120,116]
def xd(n:List Nat):Bool:=n.isEmpty||(n==Rg||n==OS)
def FF:List (List Nat):=[]::Rg::OS::eN::BF
noncomputable def CQ(r:Nat)(b:Bool):List Nat:=bif r==1||(r==2&&b) then[13,10] else bif r==2 then[13] else[10]
def zd(r:Nat)(b:Bool):List Nat:=bif r%2 !=0||!b then(bif Nat.blt r 2 then 38::vA else[38,35,51,56,59]) else[38]
def zk(r:Nat)(b:Bool):List Nat:=bif r%2 !=0||b then(bif Nat.blt r 2 then 38::wL else[38,35,120,51,67,59]) else[60]
noncomputable def rV(n ct af w out:bQ)(u:List (Str×AV)):List (Str×AV):=("after",.lf af)::("w",.lf w)::("name",.lf n)::("content",.lf ct)::("out",.lf out)::u
noncomputable def Oh(u:Option (bQ×bQ)):List (Str×AV):=match u with
 |none=>[]
 |some p=>[("c",.lf p.1),("form",.lf p.2)]
noncomputable def NU(c:bQ)(f:Option bQ):List (Str×AV):=("c",.lf c)::(match f with|none=>[]|some f=>[("form",.lf f)])
def BB(P:Params):SG:=MY (eA (bodyOf (KF P) 805) 1)
abbrev uG(P:Params)(l:List (Str×AV)):St:=dh P 805 l [] 39
def HH(P:Params)(n:List Nat)(c:bQ)(f:Option bQ)(Φ:List Fact)(Es:List Ent)(w' a:bQ):Bool:=
 qK (R3 P (Φ++[⟨.add,[a,.sym 3],.sym 9⟩]) Es) (BB P).b (uG P (rV (tx n) (.sym 0) (.sym 1) (.sym 2) (.sym 3) (NU c f))) .next (rV (tx n) (.sym 0) (.sym 1) w' (.sym 9) (Oh (some (c,a)))) []
def ZX(r:Nat)(b:Bool):List Fact:=[⟨.fmod,[.sym 2,.int 3],int r⟩,⟨.slice,[.sym 3,.none,.int 1],.sym 7⟩,⟨.eq,[.sym 7,ch 10],.bool b⟩,⟨.fdiv,[.sym 2,.int 3],.sym 6⟩]
noncomputable def Gj:List (List Nat):=[[],[32],[10],[13],[60],[38]]
def m5(r:Nat)(b:Bool):List Fact:=[⟨.fmod,[.sym 2,.int 2],int (r%2)⟩,⟨.slice,[.sym 3,.none,.int 1],.sym 7⟩,⟨.mem,.sym 7::Gj.map tx,.bool b⟩,⟨.fmod,[.sym 2,.int 4],int r⟩,⟨.fdiv,[.sym 2,.int 2],.sym 6⟩]
def UG(n:List Nat)(r:Nat)(b:Bool):List Fact:=[⟨.fmod,[.sym 2,.int 2],int (r%2)⟩,⟨.slice,[.sym 3,.none,int (1+n.length)],.sym 7⟩,⟨.eq,[.sym 8,tx (47::n)],.bool b⟩,⟨.fmod,[.sym 2,.int 4],int r⟩,⟨.fdiv,[.sym 2,.int 2],.sym 6⟩]
def WK(b1 b2:Bool):List Fact:=[⟨.eq,[.sym 4,ch 10],.bool false⟩,⟨.eq,[.sym 4,ch 38],.bool b1⟩,⟨.eq,[.sym 4,ch 60],.bool b2⟩]
noncomputable def OI:List Bool:=[true,false]
def D7(P:Params):Bool:=FF.all fun n=>(([none,some (.sym 5)]).all fun f=>
  ((List.range 3).all fun r=>OI.all fun b=>HH P n (ch 10) f (ZX r b) [] (.sym 6) (tx (CQ r b))) &&
  ((bif xd n then((List.range 4).all fun r=>OI.all fun b=>HH P n (ch 38) f (m5 r b) [] (.sym 6) (tx (zd r b))&&HH P n (ch 60) f (UG n r b) [JK (.sym 7) (.sym 8) 38] (.sym 6) (tx (zk r (n.isEmpty||b))))&&HH P n (.sym 4) f (WK false false) [] (.sym 2) (.sym 4)
   else(OI.all fun b1=>OI.all fun b2=>HH P n (.sym 4) f (WK b1 b2) [] (.sym 2) (.sym 4))))) &&
 (CP (R3 P [] []) (eA (bodyOf (KF P) 805) 0) (uG P [("after",.lf (.sym 1)),("w",.lf (.sym 2)),("name",.lf (tx n)),("content",.lf (.sym 0))]) (rV (tx n) (.sym 0) (.sym 1) (.sym 2) (.sym 1) []) [] &&
 (Eo (R3 P [⟨.rev,[.sym 0],.sym 4⟩] []) (BB P).e (uG P (rV (tx n) (.sym 0) (.sym 1) (.sym 2) (.sym 1) [])) (.lf (.sym 4)) &&
 ([none,some (.sym 4,.sym 5)].all fun u=>kS (R3 P [] []) ((bodyOf (KF P) 805).drop 2) (uG P (rV (tx n) (.sym 0) (.sym 1) (.sym 2) (.sym 3) (Oh u))) (.ret (.lf (.sym 3))) [])))
theorem OL(P):D7 P=true:=by kernel_rfl
theorem Kv(P):bodyOf (KF P) 805=eA (bodyOf (KF P) 805) 0::.For (.Name "c" (BB P).py) (BB P).e (BB P).b [] (BB P).p::(bodyOf (KF P) 805).drop 2:=by kernel_rfl
theorem AI(P):(mH (KF P) 805).names.lookup ("c" : Str)=some .local/\fE (BB P).e=true:=⟨by kernel_rfl,by kernel_rfl⟩
theorem Qf(n ct af w out c)(u):put "c" (.lf c) (rV n ct af w out (Oh u))=rV n ct af w out (NU c (u.map (·.2))):=by rcases u with _|u<;>kernel_rfl
section
open PySem.Builtin PySem.Builtin.Str
def gA(N:List Nat)(c:Nat)(p:Nat×List Nat):List Nat×Nat:=
 bif c==10 then(CQ (p.1%3) (p.2.take 1==[10]),p.1/3)
 else bif xd N&&c==38 then(zd (p.1%4) (Gj.any fun s=>p.2.take 1==s),p.1/2)
 else bif xd N&&c==60 then(zk (p.1%4) (N.isEmpty||(p.2.take (1+N.length)).map lo1==47::N),p.1/2)
 else([c],p.1)
def gG(N:List Nat)(p:Nat×List Nat)(c:Nat):Nat×List Nat:=((gA N c p).2,(gA N c p).1++p.2)
section
theorem Ur(hT:T.length<=big):ew .rev [tx T]=some (tx T.reverse):=by
 show fN ⟨((strSliceIndices none none (-1) T.length).filterMap (T.toArray[·]?)).toArray⟩=_;refine eL (picked_rev ..) ?_;have e:((List.range T.length).map fun k=>T.length-1-k).filterMap (T.toArray[·]?)=T.reverse:=by
  rw [filterMap_get _ _ fun i hi=>by
   refine bW (bL.mp hi) fun k a e=>?_;have:=bJ.mp a
   show i<T.toArray.size;exact eL size_toArray (rj 0x11F147F426F0C326F1C90 tt (aq (cC 0x10F195F10 tt this)) (aq (dN 0x10F025F127F1C90 tt (aq (cC 0x10F195F10 tt this)) this)) e),bh]
  refine ext_getElem? fun i=>(eL aH ?_)
  clear hT;rcases aV i T.length with q|q
  .have z:T.length-1-i<T.length:=by exact kF 0x11F126F0C326F1C90 tt (aq (cC 0x10F195F10 tt q)) (aq (dN 0x10F025F127F1C90 tt (aq (cC 0x10F195F10 tt q)) q))
   refine eL (getElem?_range q) (eL (List.getElem?_reverse q) (eL (ao z) ?_));show some (T.toArray.getD (T.length-1-i) 0)=_;refine eR (List.getElem_toArray (h:=by exact eL size_toArray z) ..) ?_;unfold Array.getD;refine eL (dif_pos (by exact eL size_toArray z)) ?_;rfl
  .refine eL (aT (eL length_range q)) (eL (aT (eL length_reverse q)) ?_);rfl
 exact eL e (iw (eL length_reverse hT))
theorem Jj:∀l:List (List Nat),oJ (tx d) (l.map tx)=some (l.any fun s=>d==s):=by
 intro l;induction l with
 |nil=>rfl
 |cons b l a=>
  show(CO (tx b) (tx d)).bind (fun x=>(oJ (tx d) (l.map tx)).map fun y=>x||y)=_;have e:CO (tx b) (tx d)=some (d==b):=by
   have h:(some ((⟨b.toArray⟩:Str)==⟨d.toArray⟩)).map bQ.bool=some (.bool (b==d)):=mq;injection h with h
   injection h with h
   show some ((⟨b.toArray⟩:Str)==⟨d.toArray⟩)=_;exact eL h (eL (Bool.eq_iff_iff.mpr ⟨fun h=>aC.mpr (aC.mp h).symm,fun h=>aC.mpr (aC.mp h).symm⟩) rfl)
  refine eL e (eL a ?_);rfl
theorem OT(l:List (List Nat)):ew .mem (tx d::l.map tx)=some (.bool (l.any fun s=>d==s)):=by
 show(oJ (tx d) (l.map tx)).map bQ.bool=_;refine eL (Jj ..) ?_;rfl
theorem xM:(gA N c p).1.length<=6:=by
 have a:∀r b,(CQ r b).length<=6:=fun r b=>by unfold CQ;cases r==1||(r==2&&b)<;>cases r==2<;>decide
 have e:∀r b,(zd r b).length<=6:=fun r b=>by unfold zd;cases r%2 !=0||!b<;>cases Nat.blt r 2<;>decide
 have d:∀r b,(zk r b).length<=6:=fun r b=>by unfold zk;cases r%2 !=0||b<;>cases Nat.blt r 2<;>decide
 unfold gA;cases c==10 with
 |true=>exact a _ _
 |false=>
  cases xd N&&c==38 with
  |true=>exact e _ _
  |false=>
   cases xd N&&c==60 with
   |true=>exact d _ _
   |false=>exact(by decide:1<=6)
end
section
abbrev SR(P:Params)(N ct af:List Nat)(p:Nat×List Nat)(u:Option (Nat×List Nat)):St:=uG P (rV (tx N) (tx ct) (tx af) (int p.1) (tx p.2) (Oh (u.map fun q=>(ch q.1,tx q.2))))
theorem FN(P)(j:N∈FF):(∀f∈([none,some (.sym 5)]:List (Option bQ)),
  (∀r<3,∀b,HH P N (ch 10) f (ZX r b) [] (.sym 6) (tx (CQ r b))=true)/\
  (xd N=true->(∀r<4,∀b,HH P N (ch 38) f (m5 r b) [] (.sym 6) (tx (zd r b))=true/\HH P N (ch 60) f (UG N r b) [JK (.sym 7) (.sym 8) 38] (.sym 6) (tx (zk r (N.isEmpty||b)))=true)/\HH P N (.sym 4) f (WK false false) [] (.sym 2) (.sym 4)=true)/\
  (xd N=false->∀b1 b2,HH P N (.sym 4) f (WK b1 b2) [] (.sym 2) (.sym 4)=true))/\
  CP (R3 P [] []) (eA (bodyOf (KF P) 805) 0) (uG P [("after",.lf (.sym 1)),("w",.lf (.sym 2)),("name",.lf (tx N)),("content",.lf (.sym 0))]) (rV (tx N) (.sym 0) (.sym 1) (.sym 2) (.sym 1) []) []=true/\
  Eo (R3 P [⟨.rev,[.sym 0],.sym 4⟩] []) (BB P).e (uG P (rV (tx N) (.sym 0) (.sym 1) (.sym 2) (.sym 1) [])) (.lf (.sym 4))=true/\
  ∀u∈([none,some (.sym 4,.sym 5)]:List (Option (bQ×bQ))),kS (R3 P [] []) ((bodyOf (KF P) 805).drop 2) (uG P (rV (tx N) (.sym 0) (.sym 1) (.sym 2) (.sym 3) (Oh u))) (.ret (.lf (.sym 3))) []=true:=by
 have c:∀b,b∈OI:=fun b=>by induction b<;>decide
 have k:=bS (ak.mp (OL P) N j);have g:=bS k.2;have d:=bS g.2;refine⟨fun f i=>?_,g.1,d.1,fun u h=>ak.mp d.2 u h⟩;have q:=bS (ak.mp k.1 f i);refine⟨fun r hr b=>ak.mp (ak.mp q.1 r (bJ.mpr hr)) b (c b),fun e=>?_,fun e b1 b2=>?_⟩
 .have a:=q.2;rw [e,Bool.cond_true] at a;have a:=bS a;exact⟨fun r hr b=>bS (ak.mp (ak.mp a.1 r (bJ.mpr hr)) b (c b)),a.2⟩
 .have a:=q.2;rw [e,Bool.cond_false] at a;exact ak.mp (ak.mp a b1 (c b1)) b2 (c b2)
abbrev Ry(ct af:List Nat)(p:Nat×List Nat)(c:Nat)(f:bQ)(w':Nat)(t:List Nat)(o:List Nat):List bQ:=[tx ct,tx af,int p.1,tx p.2,ch c,f,int w',tx t,tx (t.map lo1),tx o]
variable(G:Good (cx P Z))
include G
theorem iY{f:Option (List Nat)}(k:HH P N c0 (f.map fun _=>.sym 5) Φ Es e d=true)
  (l:Facts (cT (Ry ct af p c ((f.map tx).getD .none) w' t (a++p.2))) Φ) (j:dT ((cx P Z).sy (cT (Ry ct af p c ((f.map tx).getD .none) w' t (a++p.2))) (Φ++[⟨.add,[d,.sym 3],.sym 9⟩])) Es)
  (g:c0.sub (cT (Ry ct af p c ((f.map tx).getD .none) w' t (a++p.2)))=ch c) (m:e.sub (cT (Ry ct af p c ((f.map tx).getD .none) w' t (a++p.2)))=int (gA N c p).2) (h:d.sub (cT (Ry ct af p c ((f.map tx).getD .none) w' t (a++p.2)))=tx a) (i:a=(gA N c p).1) (hb:(a++p.2).length<=big):
  dz (cx P Z) (BB P).b (uG P (rV (tx N) (tx ct) (tx af) (int p.1) (tx p.2) (NU (ch c) (f.map tx)))) .next (SR P N ct af (gG N p c) (some (c,a))):=by
 have z:=gH G (gK (by rcases f with _|f<;>rfl) (dI l (bP (by
  show ew .add [d.sub _,tx p.2]=some (tx (a++p.2));exact eL h (fX hb)) bR)) j) k
 have e1:St.sub (cT (Ry ct af p c ((f.map tx).getD .none) w' t (a++p.2))) (uG P (rV (tx N) (.sym 0) (.sym 1) (.sym 2) (.sym 3) (NU c0 (f.map fun _=>.sym 5))))=uG P (rV (tx N) (tx ct) (tx af) (int p.1) (tx p.2) (NU (ch c) (f.map tx))):=by
  clear z k;rcases f with _|f
  .show uG P (rV (tx N) (tx ct) (tx af) (int p.1) (tx p.2) (NU (c0.sub _) none))=_;refine eL g ?_;rfl
  .show uG P (rV (tx N) (tx ct) (tx af) (int p.1) (tx p.2) (NU (c0.sub _) (some (tx f))))=_;refine eL g ?_;rfl
 have e2:St.sub (cT (Ry ct af p c ((f.map tx).getD .none) w' t (a++p.2))) (uG P (rV (tx N) (.sym 0) (.sym 1) e (.sym 9) (Oh (some (c0,d)))))=SR P N ct af (gG N p c) (some (c,a)):=by
  show uG P (rV (tx N) (tx ct) (tx af) (e.sub _) (tx (a++p.2)) (Oh (some (c0.sub _,d.sub _))))=_;refine eL g (eL m (eL h ?_));unfold gG;refine eR i ?_;rfl
 exact eR e2 (eR (show St.to _ _ _=uG P (rV (tx N) (.sym 0) (.sym 1) e (.sym 9) (Oh (some (c0,d)))) from rfl) (eR e1 z))
end
end
section
variable{u:Option (Nat×List Nat)}{p:Nat×List Nat}{f:Option (List Nat)}
theorem Wg(f:Option (List Nat)):(f.map fun _=>bQ.sym 5)∈([none,some (.sym 5)]):=by rcases f with _|f<;>first|exact .head _|exact .tail _ (.head _)
variable(G:Good (cx P Z))(hN:N∈FF)
include G hN
theorem LX(v:∀x∈p.2,x∈AL)(hb:p.2.length<=9000):dz (cx P Z) (BB P).b (uG P (rV (tx N) (tx ct) (tx af) (int p.1) (tx p.2) (NU (ch c) (f.map tx)))) .next (SR P N ct af (gG N p c) (some (c,(gA N c p).1))):=by
 refine fq ((FN P hN).1 _ (Wg f)) fun o y w=>?_;have g:p.2.length<=big:=ag hb (by decide)
 have lb:((gA N c p).1++p.2).length<=big:=by
  exact eL aa (ag (add_le_add xM hb) (by decide))
 have i:∀θ,θ 2=int p.1->FT θ ⟨.fmod,[.sym 2,.int 2],int (p.1%4%2)⟩:=fun θ h=>by
  show ew .fmod [θ 2,int 2]=some (int (p.1%4%2));exact eL h (eR ((Nat.mod_mod_of_dvd p.1 (by decide)).symm:p.1%2=p.1%4%2) (gu p.1 (by decide)))
 rcases Decidable.em (c=10) with rfl|a
 .have e:gA N 10 p=(CQ (p.1%3) (p.2.take 1==[10]),p.1/3):=rfl;refine iY G (o _ (mod_lt _ (by decide)) (p.2.take 1==[10])) (bP (gu p.1 (by decide)) (bP (JD g) (bP mq (bP (iK p.1 (by decide) (by decide)) bR)))) bU rfl (by refine eL e ?_;rfl) (by refine eL e ?_;rfl) rfl lb
 have j:=aN.mpr a;cases hr:xd N with
 |true=>
  refine bY (y hr) fun n r=>?_;have l:p.1%4<4:=mod_lt _ (by decide)
  rcases Decidable.em (c=38) with rfl|k
  .have e:gA N 38 p=(zd (p.1%4) (Gj.any fun s=>p.2.take 1==s),p.1/2):=by unfold gA;refine eL hr ?_;rfl
   refine iY G (n _ l (Gj.any fun s=>p.2.take 1==s)).1 (bP (i _ rfl) (bP (JD g) (bP ?_ (bP (gu p.1 (by decide)) (bP (iK p.1 (by decide) (by decide)) bR))))) bU rfl (by refine eL e ?_;rfl) (by refine eL e ?_;rfl) rfl lb;show ew .mem (tx (p.2.take 1)::(Gj.map tx).map (bQ.sub _))=_;exact eL (show(Gj.map tx).map (bQ.sub _)=Gj.map tx by refine eL bh ?_;rfl) (OT Gj)
  rcases Decidable.em (c=60) with rfl|m
  .have e:gA N 60 p=(zk (p.1%4) (N.isEmpty||(p.2.take (1+N.length)).map lo1==47::N),p.1/2):=by unfold gA;refine eL hr ?_;rfl
   refine iY G (n _ l ((p.2.take (1+N.length)).map lo1==47::N)).2 (bP (i _ rfl) (bP (JD g) (bP mq (bP (gu p.1 (by decide)) (bP (iK p.1 (by decide) (by decide)) bR)))))
    (cg (eO (lL (by rcases f with _|f<;>rfl)) rfl rfl rfl rfl rfl (Dz G (.tail _ (.head _)) (fun x z=>v x (List.mem_of_mem_take z)) (by rw [bE];exact ag (bO _ _) (ag hb (by decide))) (by decide:20<=38))) bU) rfl (by rw [e];rfl) (by rw [e];rfl) rfl lb
  .have e:gA N c p=([c],p.1):=by unfold gA;refine eL hr (eL j (eL (aN.mpr k) (eL (aN.mpr m) ?_)));rfl
   refine iY G r (w':=0) (t:=[]) (bP (jN a) (bP (jN k) (bP (jN m) bR))) bU rfl (by refine eL e ?_;rfl) (by refine eL e ?_;rfl) rfl lb
 |false=>
  have e:gA N c p=([c],p.1):=by unfold gA;refine eL hr (eL j ?_);rfl
  have q:∀d,ew .eq [ch c,ch d]=some (.bool ([c]==[d])):=fun d=>mq
  refine iY G (w hr ([c]==[38]) ([c]==[60])) (w':=0) (t:=[]) (bP (jN a) (bP (q 38) (bP (q 60) bR))) bU rfl (by refine eL e ?_;rfl) (by refine eL e ?_;rfl) rfl lb
omit G hN in
theorem Fz(h:c∈AL):∀x∈(gA N c p).1,x∈AL:=by
 have d:∀r b,∀x∈CQ r b,x∈AL:=fun r b=>by unfold CQ;cases r==1||(r==2&&b)<;>cases r==2<;>decide
 have g:∀r b,∀x∈zd r b,x∈AL:=fun r b=>by unfold zd;cases r%2 !=0||!b<;>cases Nat.blt r 2<;>decide
 have e:∀r b,∀x∈zk r b,x∈AL:=fun r b=>by unfold zk;cases r%2 !=0||b<;>cases Nat.blt r 2<;>decide
 unfold gA;cases c==10 with
 |true=>exact d _ _
 |false=>
  cases xd N&&c==38 with
  |true=>exact g _ _
  |false=>
   cases xd N&&c==60 with
   |true=>exact e _ _
   |false=>exact fun x a=>aB.mp a▸h
theorem Wr:∀(l:List Nat) (p:Nat×List Nat) u,(∀x∈l,x∈AL)->(∀x∈p.2,x∈AL)->p.2.length+6*l.length<=9000->
  ∃g,Dc (cx P Z) (.Name "c" (BB P).py) (BB P).b l.length (.str l) (SR P N ct af p u) .next (SR P N ct af (l.foldl (gG N) p) g):=by
 intro l;induction l with
 |nil=>exact fun p u _ _ _=>⟨u,.stop rfl rfl rfl⟩
 |cons c l i=>
  intro p u e a hb;rw [ay,mul_succ] at hb;have as:=zY.name (C:=cx P Z) (py:=(BB P).py) (x:=.lf (ch c)) (σ:=SR P N ct af p u) (AI P).1;rw [Qf] at as;have t:=LX (ct:=ct) (af:=af) (f:=u.map (·.2)) G hN (c:=c) a (by exact cC 0x10F8B2B3BA04F8B2B3BACC6B8D16B80 tt hb);refine cN (i (gG N p c) (some (c,(gA N c p).1)) (fun x d=>e x (.tail _ d)) (fun x d=>(bg.mp d).elim ((Fz (e c (.head _))) x) (a x)) (by exact eL aa (dN 0x10F8B2B3BACD26B8C104F8B2B3BACC6B8D26B814F6B80 tt (xM) hb))) fun g h=>⟨g,.turn rfl as ?_ (.inl rfl) h⟩
  clear h as e a hb i;rcases u with _|u<;>exact t
theorem PW(j:∀x∈ct,x∈AL)(d:∀x∈af,x∈AL)(hb:af.length+6*ct.length<=9000):cG (cx P Z) (bodyOf (KF P) 805) (uG P [("after",.lf (tx af)),("w",.lf (int w)),("name",.lf (tx N)),("content",.lf (tx ct))]) (.ret (.lf (tx (ct.foldr (fun c p=>gG N p c) (w,af)).2))) []:=by
 refine tB (FN P hN) fun _ b g e=>?_;have a0:=pP G (gK (L:=[tx ct,tx af,int w]) rfl bR bU) b
 have i:=yK.of G (it:=.str ct.reverse) (rT G (gK (L:=[tx ct,tx af,int w,.none,tx ct.reverse]) rfl (bP (Ur (by exact cC 0x10F0B4B2B4BFB814F8B2B3BACD16B80 tt hb:ct.length<=1000000)) bR) bU) g) rfl;refine cN (Wr (ct:=ct) (af:=af) G hN ct.reverse (w,af) none (fun x k=>j x (List.mem_reverse.mp k)) d (by exact eL length_reverse hb)) fun a h=>?_
 rw [List.foldl_reverse] at h;have z:=dO G (gK (L:=[tx ct,tx af,int (ct.foldr (fun c p=>gG N p c) (w,af)).1,tx (ct.foldr (fun c p=>gG N p c) (w,af)).2,(a.map fun q=>ch q.1).getD .none,(a.map fun q=>tx q.2).getD .none]) (by rcases a with _|a<;>rfl) bR bU) (e (a.map fun _=>(.sym 4,.sym 5)) (by rcases a with _|a<;>first|exact .head _|exact .tail _ (.head _)));refine eL (Kv ..) (cG.cons a0 (cG.cons (lA.yc (AI P).2 i h) ?_));clear h i a0 b g e j d hb;rcases a with _|a<;>exact z
end
noncomputable def Iv(t l c:bQ)(u:Option bQ):List (Str×AV):=("text",.lf t)::("line",.lf l)::("column",.lf c)::(match u with|none=>[]|some x=>[("c",.lf x)])
def Ib(P:Params):SG:=MY (eA (bodyOf (KF P) 812) 1)
abbrev KG(P:Params)(l:List (Str×AV)):St:=dh P 812 l [] 39
noncomputable def n9:List Fact:=[⟨.qp,[.sym 0,.str "\r\n",.str "\n"],.sym 3⟩,⟨.qp,[.sym 3,.str "\r",.str "\n"],.sym 4⟩]
def Xp(P:Params)(b:Bool):Bool:=qK (R3 P [⟨.eq,[.sym 3,ch 10],.bool b⟩,⟨.add,[.sym 1,.int 1],.sym 4⟩,⟨.add,[.sym 2,.int 1],.sym 5⟩] []) (Ib P).b (KG P (Iv (.sym 0) (.sym 1) (.sym 2) (some (.sym 3)))) .next (Iv (.sym 0) (bif b then .sym 4 else .sym 1) (bif b then .int 0 else .sym 5) (some (.sym 3))) []
def B3(P:Params):Bool:=(Xp P true&&Xp P false)&&(CP (R3 P [] []) (eA (bodyOf (KF P) 812) 0) (KG P [("text",.lf (.sym 0))]) (Iv (.sym 0) (.int 1) (.int 0) none) [] &&
 (Eo (R3 P n9 []) (Ib P).e (KG P (Iv (.sym 0) (.int 1) (.int 0) none)) (.lf (.sym 4)) &&
 ([none,some (.sym 3)].all fun u=>kS (R3 P [] []) ((bodyOf (KF P) 812).drop 2) (KG P (Iv (.sym 0) (.sym 1) (.sym 2) u)) (.ret (.tup [.lf (.sym 1),.lf (.sym 2)])) [])))
theorem GZ(P):B3 P=true:=by kernel_rfl
theorem LV(P):bodyOf (KF P) 812=eA (bodyOf (KF P) 812) 0::.For (.Name "c" (Ib P).py) (Ib P).e (Ib P).b [] (Ib P).p::(bodyOf (KF P) 812).drop 2:=by kernel_rfl
theorem Aj(P):(mH (KF P) 812).names.lookup ("c" : Str)=some .local/\fE (Ib P).e=true:=⟨by kernel_rfl,by kernel_rfl⟩
theorem RW(t l c x)(u):put "c" (.lf x) (Iv t l c u)=Iv t l c (some x):=by rcases u with _|u<;>kernel_rfl
section
def Ta(a:(Nat×Nat)×Option Nat)(c:Nat):(Nat×Nat)×Option Nat:=(MB a.1 c,some c)
theorem Lo:∀(T:List Nat) a,(T.foldl Ta a).1=T.foldl MB a.1:=by
 intro T;induction T with
 |nil=>exact fun a=>rfl
 |cons c T b=>exact fun a=>b (Ta a c)
abbrev XQ(raw:List Nat)(a:(Nat×Nat)×Option Nat):List (Str×AV):=Iv (tx raw) (int (a.1.1+1)) (int a.1.2) (a.2.map ch)
variable(G:Good (cx P Z))
include G
theorem Jp(a)(c):dz (cx P Z) (Ib P).b (KG P (put "c" (.lf (ch c)) (XQ raw a))) .next (KG P (XQ raw (Ta a c))):=by
 have k:=bS (bS (GZ P)).1;refine eL (RW ..) ?_;have f:∀b,(c==10)=b->Facts (cT [tx raw,int (a.1.1+1),int a.1.2,ch c,int (a.1.1+1+1),int (a.1.2+1)]) [⟨.eq,[.sym 3,ch 10],.bool b⟩,⟨.add,[.sym 1,.int 1],.sym 4⟩,⟨.add,[.sym 2,.int 1],.sym 5⟩]:=fun b hb=>bP (by
  show ew .eq [ch c,ch 10]=some (.bool b);refine eL (mq) (eR hb ?_);show some (bQ.bool (c==10&&true))=_;exact eL (Bool.and_true ..) rfl) (bP rfl (bP rfl bR))
 unfold Ta MB;cases hb:c==10 with
 |true=>exact gH G (gK rfl (f true hb) bU) k.1
 |false=>exact gH G (gK rfl (f false hb) bU) k.2
theorem KS(l:raw.length<=10000):cG (cx P Z) (bodyOf (KF P) 812) (KG P [("text",.lf (tx raw))]) (.ret (.tup [.lf (int ((lc (cf raw)).1+1)),.lf (int (lc (cf raw)).2)])) []:=by
 obtain⟨_,g,d,b⟩:(Xp P true&&Xp P false)=true/\CP (R3 P [] []) (eA (bodyOf (KF P) 812) 0) (KG P [("text",.lf (.sym 0))]) (Iv (.sym 0) (.int 1) (.int 0) none) []=true/\Eo (R3 P n9 []) (Ib P).e (KG P (Iv (.sym 0) (.int 1) (.int 0) none)) (.lf (.sym 4))=true/\_:=
  have k:=bS (GZ P);have d:=bS k.2;have b:=bS d.2
  ⟨k.1,d.1,b.1,b.2⟩
 have f:=DC (θ:=cT [tx raw,.none,.none,.none,.none,.none,.none,.none,.none,.none,.none,.none,.none,.none,.none,.none,.none,.none,.none,tx (dP [13,10] [10] raw),tx (cf raw),int (cf raw).length]) (x:=.sym 0) l rfl rfl rfl rfl;have m:=f _ (.head _);have i:=f _ (.tail _ (.head _));have a0:=pP G (gK (L:=[tx raw]) rfl bR bU) g;have j:=yK.of G (rT G (gK (L:=[tx raw,.none,.none,tx (dP [13,10] [10] raw),tx (cf raw)]) rfl (bP m (bP i bR)) bU) d) rfl;have h:=Dc.str (py:=(Ib P).py) (XQ raw) Ta (Aj P).1 (fun a c _=>Jp G a c) (cf raw) ((0,0),none) fun _ _=>trivial
 have e:=Lo (cf raw) ((0,0),none);generalize (cf raw).foldl Ta ((0,0),none)=r at h e;have e:r.1=lc (cf raw):=e;refine eL (LV ..) (cG.cons a0 (cG.cons (lA.yc (Aj P).2 j h) ?_));have z:=dO G (gK (L:=[tx raw,int (r.1.1+1),int r.1.2,(r.2.map ch).getD .none]) (by rcases r with⟨_,_|_⟩<;>rfl) bR bU) (ak.mp b (r.2.map fun _=>.sym 3) (by rcases r with⟨_,_|_⟩<;>first|exact .head _|exact .tail _ (.head _)));refine eR e ?_;clear e h j a0 i m f g d b l;rcases r with⟨_,_|_⟩<;>exact z
end
def DZ(P:Params):Xb:=SO (eA (bodyOf (KF P) 817) 2)
def gM:List (List Nat):=[Rg,[115,116,121,108,101],qa,OS,[120,109,112],eN]
def lq(r:Nat):List Nat:=(gM[r]?).getD []
noncomputable def nH(e:Nat)(a b c:bQ):List (Str×AV):=match e with
 |0=>[]
 |1=>[("n",.lf a)]
 |_=>[("n",.lf a),("name",.lf b),("content",.lf c)]
noncomputable def pC(r k:Nat):Nat:=bif r==6 then 1+k else bif r==5 then 20 else k
def D5(c:Nat)(m:Nat):Ent:=⟨791,[("count",.lf (int c)),("tape",.obj 0)],[1],[.list (dc 1 m)],39,.ret (.lf (.sym 22)),[.list ((dc 1 m).drop c)],none⟩
def A8(n:List Nat):Ent:=⟨798,xm (tx n) (.sym 22) [],[],[],39,.ret (.lf (.sym 23)),[],none⟩
def ZW(r k:Nat):List Fact:=[⟨.fmod,[.sym 0,.int 7],int r⟩,⟨.fdiv,[.sym 0,.int 7],.sym 20⟩,⟨.fdiv,[.sym 0,int (bif Nat.blt r 5 then 42 else 28)],.sym 21⟩]++(bif r==5 then[] else[⟨.fmod,[.sym 20,int (bif r==6 then 4 else 6)],int k⟩])
noncomputable def lR:List (Str×AV):=[("script",.obj 0)]
def EV(P:Params)(l:List (Str×AV))(o:List AO):St:=dh P 817 (("rows",.obj 0)::("tape",.obj 1)::l) o 40
noncomputable def CX(r:Nat):Bool:=r==0||(r==3||Nat.blt 4 r)
def SU(r:Nat):AV:=.tup [.lf (tx (lq r)),.lf (bif CX r then .sym 22 else .sym 23),.lf (.sym 21)]
def CZ(e r:Nat)(a b c:bQ)(s:List (Str×AV)):List (Str×AV):=bif Nat.blt r 5 then(nH e a (tx (lq r)) c++(s++(nH 2 a (tx (lq r)) c).drop (nH e a b c).length)) else bif e==0 then s++nH 1 a b c else nH e a b c++s
noncomputable def tq(r:Nat):Nat:=bif r==6 then 4 else bif r==5 then 1 else 6
def vN(e:Nat):List (Nat×Nat×Nat×Nat):=(List.range 12).flatMap fun m=>(List.range 7).flatMap fun r=>(List.range (tq r)).map fun k=>(e,m,r,k)
def VJ(m r k:Nat):List Ent:=D5 (pC r k) m::(bif CX r then[] else[A8 (lq r)])
def pM(P:Params)(α:Str->Value)(c:Nat×Nat×Nat×Nat):R Fl:=(R3 P (ZW c.2.2.1 c.2.2.2) (VJ c.2.1 c.2.2.1 c.2.2.2)).fL (DZ P).b (EV P (nH c.1 (.sym 30) (.sym 31) (.sym 32)++cm α lR) [.fK [] 40 [],.list (.lf (.sym 0)::dc 1 c.2.1)])
def xj(r:Nat):List AO:=bif Nat.blt r 5 then[.list (gM.map fun n=>.lf (tx n))] else[]
def ql(P:Params)(α:Str->Value)(c:Nat×Nat×Nat×Nat):R Fl:=some (.next,EV P (CZ c.1 c.2.2.1 (.sym 0) (bif Nat.blt c.2.2.1 5 then tx (lq c.2.2.1) else .sym 31) (bif Nat.blt c.2.2.1 5 then .sym 22 else .sym 32) (cm α lR)) ([.fK [] 40 [SU c.2.2.1],.list ((dc 1 c.2.1).drop (pC c.2.2.1 c.2.2.2))]++xj c.2.2.1))
theorem JX(P)(α):(vN 0).map (pM P α)=(vN 0).map (ql P α):=by kernel_rfl
theorem Ji(P)(α):(vN 1).map (pM P α)=(vN 1).map (ql P α):=by kernel_rfl
theorem ME(P)(α):(vN 2).map (pM P α)=(vN 2).map (ql P α):=by kernel_rfl
structure Row where
 nm:List Nat
 ct:List Nat
 w:Nat
def gJ(n:Nat):Nat:=n/7%tq (n%7)
def oE(n:Nat)(ts:List Nat):List Nat:=gP ts (pC (n%7) (gJ n))
def rowOf(n:Nat)(ts:List Nat):Row:=⟨lq (n%7),bif CX (n%7) then oE n ts else jb (lq (n%7)) (oE n ts),n/(bif Nat.blt (n%7) 5 then 42 else 28)⟩
noncomputable def fh:Nat->List Nat->List Row
 |0,_=>[]
 |_,[]=>[]
 |f+1,n::ts=>rowOf n ts::fh f (ts.drop (pC (n%7) (gJ n)))
def Row.av(r:Row):AV:=.tup [.lf (tx r.nm),.lf (tx r.ct),.lf (int r.w)]
def qM(A R:List bQ)(k:Nat):bQ:=bif Nat.blt k 12 then cT A k else cT R (k-12)
section
variable{C:Ctx}{b:List Stmt}{sc:Scope}{l l':List (Str×AV)}{obj:List AO}{d:Nat}{fl:Fl}{τ σ:St}{A B:List bQ}{a c n m:Nat}{ts:List Nat}
theorem tZ(e:A.all isLit=true)(f:B.all isLit=true)(k:Nat):isLit (qM A B k)=true:=by
 unfold qM;cases Nat.blt k 12 with
 |true=>exact lL e k
 |false=>exact lL f (k-12)
theorem wV{x:bQ}(h:ts.length<=11):subs (qM (x::ts.map int) B) (dc 1 ts.length)=jG ts:=by
 refine eL (cP ..) (eL bh (ext_getElem? fun i=>(eL aH (eL aH ?_))));rcases aV i ts.length with q|q
 .refine eL (getElem?_range q) (eL (ao q) ?_);show some (AV.lf (qM (x::ts.map int) B (1+i)))=_;unfold qM;refine eL (show Nat.blt (1+i) 12=true from blt_eq.mpr (by exact cC 0x11FCB8C195F014FBB80 tt h q)) (eL (Nat.add_comm 1 i) ?_);show some (AV.lf (((ts.map int)[i]?).getD .none))=_;refine eL aH (eL (ao q) ?_);rfl
 .refine eL (aT (eL length_range q)) (eL (aT q) ?_);rfl
theorem rY{θ:Nat->bQ}{xs:List AV}:subs θ (xs.drop c)=(subs θ xs).drop c:=by exact eL (cP ..) (eL (cP ..) (eL List.map_drop rfl))
theorem uP:(jG ts).drop c=jG (ts.drop c):=by unfold jG;exact eL List.map_drop rfl
theorem FE{k:Nat}:gY k ((dc a m).drop c)=true:=by
 refine eL (eC ..) (ak.mpr fun x f=>(bW (bL.mp (List.mem_of_mem_drop f)) fun i _ e=>?_));refine eR e ?_;rfl
theorem zE{e:Nat->Nat}:dE e (jG ts)=jG ts:=by
 refine eL (cZ ..) (eL bh ?_);rfl
theorem dz.look(h:dz C b σ fl ⟨sc,l,obj,d⟩)(e:∀x,l'.lookup x=l.lookup x):dz C b σ fl ⟨sc,l',obj,d⟩:=fun F Ω H=>nu (h F Ω H) fun g _ f H1 q=>by
 exact .in f (H1.vF rfl rfl rfl (H1.rel.fr.elim fun m k=>⟨m,k.1,fun x av q=>k.2.1 x av ((e x).symm.trans q),fun x q=>k.2.2 x ((e x).symm.trans q)⟩) H1.rel.ob) q
theorem ry{x:Str}{v:AV}:∀ {l:List (Str×AV)},l.lookup x=some v->(x,v)∈l:=by
 intro l;induction l with
 |nil=>exact fun h=>cX h
 |cons p l e=>
  intro h;rw [aY] at h;cases q:x==p.1 with
  |true=>
   rw [q] at h;injection h with h
   exact eL (aC.mp q) (eR h (.head _))
  |false=>rw [q] at h;exact .tail _ (e h)
theorem dH{a b c:List (Str×AV)}(h:(b.all fun p=>(c.lookup p.1).isNone)=true)(x:Str):(a++(c++b)).lookup x=(a++(b++c)).lookup x:=by
 refine eL cy (eL cy (eL cy (eL cy ?_)));cases a.lookup x with
 |some v=>rfl
 |none=>
  cases q:b.lookup x with
  |none=>cases c.lookup x<;>rfl
  |some v=>
   exact eL (isNone_iff_eq_none.mp (ak.mp h (x,v) (ry q))) rfl
end
section
variable{P:Params}{Z:Heap×Program×World}{x:Expr}{s:Stmt}{b:List Stmt}{σ τ:St}{c:Bool}{a:AV}{fl:Fl}
theorem uf(G:Good (cx P Z))(e:(R3 P [] []).gO x σ=some (c,τ)):fx (cx P Z) x σ c τ:=fun F Ω H=>((gU G (fun _ h=>iS h) eY (jf G) 400 (Es:=[])).gO F Ω x Ω .refl σ H).of e
theorem xt(G:Good (cx P Z))(e:(R3 P [] []).ev x σ=some (a,τ)):iD (cx P Z) x σ a τ:=fun F Ω H=>((gU G (fun _ h=>iS h) eY (jf G) 400 (Es:=[])).ev F Ω x Ω .refl σ H).of e
theorem Rj(G:Good (cx P Z))(e:(R3 P [] []).ex s σ=some (fl,τ)):lA (cx P Z) s σ fl τ:=fun F Ω H=>((gU G (fun _ h=>iS h) eY (jf G) 400 (Es:=[])).ex F Ω s Ω .refl σ H).of e
end
section
abbrev Xy(e:Nat)(a b c:bQ):List (Str×AV):=("rows",.obj 3)::("tape",.obj 2)::(nH e a b c++lR)
abbrev Mx(o:Obj)(xs sl:List AV)(ts:List Nat)(rws:List AV)(Gb:List AO):List AO:=[.dy o xs,.list sl,.list (jG ts),.list rws]++Gb
abbrev Yb(n:Nat)(ts:List Nat)(a b c:bQ)(d:List Value):List bQ:=[.none,.none,.none,.none,.none,.none,.none,.none,int (n/7),int (rowOf n ts).w,tx (oE n ts),tx (jb (lq (n%7)) (oE n ts)),.none,.none,.none,.none,.none,.none,a,b,c,.none,.none,.none,.none,.none,.none,.none,.vals d]
abbrev lJ(n:Nat)(ts:List Nat)(a b c:bQ)(d:List Value):Nat->bQ:=qM (int n::ts.map int) (Yb n ts a b c d)
theorem Vk(n):gJ n<tq (n%7):=mod_lt _ (by
 unfold tq;cases n%7==6 with
 |true=>exact(by decide:0<4)
 |false=>cases n%7==5<;>decide)
theorem OM(c:e<3)(b:m<12)(hr:r<7)(a:k<tq r)(α):pM P α (e,m,r,k)=ql P α (e,m,r,k):=by
 have h:∀e,(vN e).map (pM P α)=(vN e).map (ql P α)->pM P α (e,m,r,k)=ql P α (e,m,r,k):=fun e q=>
  bz.mp q _ (mem_flatMap.mpr ⟨m,bJ.mpr b,mem_flatMap.mpr ⟨r,bJ.mpr hr,bL.mpr ⟨k,bJ.mpr a,rfl⟩⟩⟩)
 exact HZ (P:=fun e=>pM P α (e,m,r,k)=ql P α (e,m,r,k)) (h 0 (JX P α)) (h 1 (Ji P α)) (h 2 (ME P α)) e c
theorem Hz:Facts (lJ n ts a b c d) (ZW (n%7) (gJ n)):=by
 refine dI (bP (gu n (by decide)) (bP (iK n (by decide) (by decide)) (bP (iK n ?_ ?_) bR))) ?_
 .cases Nat.blt (n%7) 5<;>decide
 .cases Nat.blt (n%7) 5<;>decide
 .cases q:n%7==5 with
  |true=>exact bR
  |false=>
   refine bP ?_ bR;have e:gJ n=n/7%(bif n%7==6 then 4 else 6):=by unfold gJ tq;refine eL q ?_;rfl
   exact eL e (gu (n/7) (by cases n%7==6<;>decide))
theorem Sj(a:k<tq r)(hr:r<7):pC r k<=20:=by
 have:tq r<=6:=by
  unfold tq;cases r==6 with
  |true=>exact(by decide:4<=6)
  |false=>cases r==5<;>decide
 unfold pC;cases r==6 with
 |true=>exact cC 0x10F4B9C195F014F6B80 tt this a
 |false=>
  cases r==5 with
  |true=>exact ah _
  |false=>exact cC 0x10F4B915F014F6B80 tt this a
theorem wQ(a:ts.length<=12):(oE n ts).length<=120:=ag (wH _) (eL bE (mul_le_mul_left 10 (ag (bO _ _) a)))
theorem vW:∀x∈oE n ts,x∈A2/\x≠13:=fun x a=>by
 exact bW (mem_flatMap.mp a) fun m _ h=>((lP _ (mj m)).2 x h)
theorem OG(hr:r<7)(h:CX r=false):lq r∈BF:=by
 have z:=ak.mp (by decide:((List.range 7).all fun r=>CX r||BF.contains (lq r))=true) r (bJ.mpr hr);rw [h,Bool.false_or] at z;exact contains_iff_mem.mp z
variable(G:Good (cx P Z))
include G
theorem Jm(d:ts.length<=11)(i:isLit a=true)(hb:isLit b=true)(g:isLit c=true):dT ((cx P Z).sy (lJ n ts a b c f) Φ) (VJ ts.length (n%7) (gJ n)):=by
 have lit:∀k,isLit (lJ n ts a b c f k)=true:=tZ (eL all_cons (eL all_map (ak.mpr fun _ _=>rfl))) (by
  show(isLit a&&(isLit b&&(isLit c&&true)))=true;refine eL i (eL hb (eL g ?_));rfl)
 have e:subs (lJ n ts a b c f) (dc 1 ts.length)=jG ts:=wV d;refine cg ?_ ?_
 .refine eO lit rfl ?_ ?_ rfl ?_ (Rm G (le_succ_of_le d) (Sj (Vk n) (mod_lt _ (by decide))))
  .show (true&&(true&&(gY 1 ((dc 1 ts.length).drop (pC (n%7) (gJ n)))&&true)))=true;refine eL FE ?_;rfl
  .show (⟨_,_,[AO.list (subs _ (dc 1 ts.length))],_⟩:St)=_;refine eL e ?_;rfl
  .show [AO.list (subs _ ((dc 1 ts.length).drop (pC (n%7) (gJ n))))]=_;exact eL rY (eL e (eL uP rfl))
 .cases q:CX (n%7) with
  |true=>exact bU
  |false=>
   refine cg (eO lit rfl rfl rfl rfl rfl (WH G (OG (mod_lt _ (by decide)) q) (fun x h=>(lE x (vW x h).1).1) (ag (wQ (le_succ_of_le d)) (by decide)))) bU
end
section
variable{sl:List AV}
def CL(n:Nat)(b:bQ):bQ:=bif Nat.blt (n%7) 5 then tx (lq (n%7)) else b
def Iz(n:Nat)(ts:List Nat)(c:bQ):bQ:=bif Nat.blt (n%7) 5 then tx (oE n ts) else c
noncomputable def Ic(e r:Nat):Nat:=bif Nat.blt r 5 then 2 else bif e==0 then 1 else e
theorem LD:cY θ (nH e a b c)=nH e (a.sub θ) (b.sub θ) (c.sub θ):=by
 rcases e with _|_|e<;>rfl
theorem As:cE d (nH e a b c)=nH e a b c:=by
 rcases e with _|_|e<;>rfl
theorem DU(d:e<3)(r)(nm)(b:Nat.blt r 5=true->nm=tx (lq r))(s)(x):(CZ e r a nm c (cm s lR)).lookup x=(nH (Ic e r) a nm c++cm s lR).lookup x:=by
 unfold CZ Ic;cases q:Nat.blt r 5 with
 |true=>
  refine eR (b q) ?_;clear b q;revert e;apply HZ
  .exact dH (by kernel_rfl) x
  .exact dH (by kernel_rfl) x
  .exact az (fun l:List (Str×AV)=>l.lookup x) rfl
 |false=>
  clear b q;revert e;apply HZ
  .exact dH (a:=[]) (c:=cm s lR) (by kernel_rfl) x
  .rfl
  .rfl
theorem kP{p:Str×AV}{l l':List (Str×AV)}{x:Str}(h:l.lookup x=l'.lookup x):(p::l).lookup x=(p::l').lookup x:=by exact eL aY (eL aY (eL h rfl))
theorem KH(d:e<3):cY θ (CZ e r a b c s)=CZ e r (a.sub θ) (b.sub θ) (c.sub θ) (cY θ s):=by
 unfold CZ;cases Nat.blt r 5 with
 |true=>
  unfold cY;refine eL aO (eL aO ?_);revert e;apply HZ<;>rfl
 |false=>
  revert e;apply HZ<;>exact aO
variable(G:Good (cx P Z))
include G
theorem HL(i:e<3)(f:ts.length<=11)(l:isLit a=true)(hb:isLit b=true)(m:isLit c=true)(r:d.length<=1000)(α):
  dz (cx P Z) (DZ P).b (EV P (nH e a b c++cm α lR) [.list (cp d++[]),.list (jG (n::ts))]) .next
   (EV P (nH (Ic e (n%7)) (int n) (CL n b) (Iz n ts c)++cm α lR) ([.list (cp d++[(rowOf n ts).av]),.list (jG (ts.drop (pC (n%7) (gJ n))))]++xj (n%7))):=by
 have lit:∀k,isLit (lJ n ts a b c d k)=true:=tZ (eL all_cons (eL all_map (ak.mpr fun _ _=>rfl))) (by
  show(isLit a&&(isLit b&&(isLit c&&true)))=true;refine eL l (eL hb (eL m ?_));rfl)
 have z:=dY G ⟨lit,Hz,Jm G f l hb m⟩ (OM i (Nat.lt_succ_of_le f) (mod_lt n (by decide:0<7)) (Vk n) α);have o:subs (lJ n ts a b c d) (dc 1 ts.length)=jG ts:=wV f;have j:=fB r;have p:St.sub (lJ n ts a b c d) (EV P (nH e (.sym 30) (.sym 31) (.sym 32)++cm α lR) [.fK [] 40 [],.list (.lf (.sym 0)::dc 1 ts.length)])=EV P (nH e a b c++cm α lR) [.list (cp d++[]),.list (jG (n::ts))]:=by
  show EV P (cY (lJ n ts a b c d) (nH e (.sym 30) (.sym 31) (.sym 32)++cm α lR)) [.list (kD (.vals d)++[]),.list (.lf (int n)::subs (lJ n ts a b c d) (dc 1 ts.length))]=_;refine eL o (eL j (eL (show cY (lJ n ts a b c d) (nH e (.sym 30) (.sym 31) (.sym 32)++cm α lR)=nH e a b c++cm α lR from(aO).trans (congr (az _ LD) dC)) ?_));rfl
 have s:St.sub (lJ n ts a b c d) (EV P (CZ e (n%7) (.sym 0) (bif Nat.blt (n%7) 5 then tx (lq (n%7)) else .sym 31) (bif Nat.blt (n%7) 5 then .sym 22 else .sym 32) (cm α lR)) ([.fK [] 40 [SU (n%7)],.list ((dc 1 ts.length).drop (pC (n%7) (gJ n)))]++xj (n%7))) =
   EV P (CZ e (n%7) (int n) (CL n b) (Iz n ts c) (cm α lR)) ([.list (cp d++[(rowOf n ts).av]),.list (jG (ts.drop (pC (n%7) (gJ n))))]++xj (n%7)):=by
  have g:(xj (n%7)).map (AO.sub (lJ n ts a b c d))=xj (n%7):=by unfold xj;cases Nat.blt (n%7) 5<;>rfl
  have q:(SU (n%7)).sub (lJ n ts a b c d)=(rowOf n ts).av:=by
   unfold SU rowOf;cases CX (n%7)<;>rfl
  have v:cY (lJ n ts a b c d) (CZ e (n%7) (.sym 0) (bif Nat.blt (n%7) 5 then tx (lq (n%7)) else .sym 31) (bif Nat.blt (n%7) 5 then .sym 22 else .sym 32) (cm α lR))=CZ e (n%7) (int n) (CL n b) (Iz n ts c) (cm α lR):=by
   refine eL (KH i) (eL dC ?_);unfold CL Iz;cases Nat.blt (n%7) 5<;>rfl
  show EV P (cY _ (CZ _ _ _ _ _ _)) ([.list (kD (.vals d)++[(SU (n%7)).sub _]),.list (subs _ ((dc 1 ts.length).drop _))]++(xj (n%7)).map _)=_;exact eL v (eL g (eL q (eL rY (eL o (eL uP (eL j rfl))))))
 rw [p] at z;have z:=dz.look (s▸(z:dz (cx P Z) (DZ P).b _ .next (St.sub (lJ n ts a b c d) (EV P (CZ e (n%7) (.sym 0) (bif Nat.blt (n%7) 5 then tx (lq (n%7)) else .sym 31) (bif Nat.blt (n%7) 5 then .sym 22 else .sym 32) (cm α lR)) (([.fK [] 40 [SU (n%7)],.list ((dc 1 ts.length).drop (pC (n%7) (gJ n)))]:List AO)++xj (n%7)))))) fun x=>kP (kP (DU i (n%7) (CL n b) (fun h=>by unfold CL;refine eL h ?_;rfl) α x).symm)
 exact z
omit G in
theorem Lg:(xj r).map (AO.ed a)=xj r:=by unfold xj;cases Nat.blt r 5<;>rfl
omit G in
theorem kB{a b:List (Str×AV)}(h:(a.all fun p=>(b.lookup p.1).isSome)=true)(x)(e:b.lookup x=none):a.lookup x=none:=by
 cases q:a.lookup x with
 |none=>rfl
 |some v=>
  have k:=ak.mp h (x,v) (ry q);rw [e] at k;exact(aA k).elim
theorem Lh(q:e<3)(f:ts.length<=11)(l:isLit a=true)(hb:isLit b=true)(m:isLit c=true)(k:rws.length<=1000):
  dz (cx P Z) (DZ P).b (dh P 817 (Xy e a b c) (Mx o xs sl (n::ts) rws Gb) 40) .next (dh P 817 (Xy (Ic e (n%7)) (int n) (CL n b) (Iz n ts c)) (Mx o xs sl (ts.drop (pC (n%7) (gJ n))) (rws++[(rowOf n ts).av]) (Gb++xj (n%7))) 40):=by
 have t:=dz.Ba (g:=3) (mW:=[2])
  (nd:=("rows",.obj 0)::("tape",.obj 1)::nH e a b c) (rh:=("rows",.obj 0)::("tape",.obj 1)::nH (Ic e (n%7)) (int n) (CL n b) (Iz n ts c))
  (B:=Mx o xs sl (n::ts) rws Gb) (B':=Mx o xs sl (ts.drop (pC (n%7) (gJ n))) (rws++[(rowOf n ts).av]) Gb) (MT (by decide))
  (by refine eL (rfl:dE (fD [3,2] (Mx o xs sl (n::ts) rws Gb).length) []=[]) (eL (aF ..) ?_);rfl) rfl
  (fun F Ω H=>(dJ ([.list (jG (n::ts))]) ([.list (jG (ts.drop (pC (n%7) (gJ n))))]) ⟨rfl,rfl,fun i j ob e1 e2=>?_,fun i j ob e1 e2=>?_,fun α s r=>HL G q f l hb m (r▸k) α⟩))
  (fun x=>by
   show _=(("rows",AV.obj 3)::("tape",AV.obj 2)::(cE _ (nH e a b c)++lR):List (Str×AV)).lookup x;exact eL As rfl) (fun x=>by
   show _=(("rows",AV.obj 3)::("tape",AV.obj 2)::(cE _ (nH (Ic e (n%7)) (int n) (CL n b) (Iz n ts c))++lR):List (Str×AV)).lookup x;exact eL As rfl) (kB ?_) (fun j p=>?_) rfl (fun j p=>?_) (.inl rfl)
 .exact eR (aw _ _ _:Mx o xs sl (ts.drop (pC (n%7) (gJ n))) (rws++[(rowOf n ts).av]) Gb++xj (n%7)=Mx o xs sl (ts.drop (pC (n%7) (gJ n))) (rws++[(rowOf n ts).av]) (Gb++xj (n%7))) (eR Lg t)
 .rcases i with _|i
  ·(injection e1 with d;clear f k l hb m q;subst d);(injection e2 with d;subst d)
   show gz _ _ _ _ (.list (dE _ (jG (n::ts))));exact eL zE (H.rel.ob 2 _ rfl)
  .exact cX e1
 .rcases i with _|i
  ·(injection e1 with d;clear f k l hb m q H;subst d);(injection e2 with d;subst d)
   refine⟨_,rfl,?_⟩;show Bp _ _ _ (.list (dE _ (jG _)));exact eL zE (fun _ _ _ _ h=>h)
  .exact cX e1
 .unfold Ic;clear k m hb l f;revert e;apply HZ<;>(cases Nat.blt (n%7) 5<;>kernel_rfl)
 .cases aB.mp p;exact succ_lt_succ (succ_lt_succ (succ_pos _))
 .rcases j with _|_|_|_|j
  .rfl
  .rfl
  .exact absurd (.tail _ (.head _)) p
  .exact absurd (.head _) p
  .rfl
end
theorem Sv(P)(o)(xs sl rws)(Gb)(l):(R3 P [] []).gO (DZ P).t (dh P 817 (("rows",.obj 3)::("tape",.obj 2)::l) ([.dy o xs,.list sl,.list [],.list rws]++Gb) 40)=some (false,dh P 817 (("rows",.obj 3)::("tape",.obj 2)::l) ([.dy o xs,.list sl,.list [],.list rws]++Gb) 40)/\
  ∀x ts,(R3 P [] []).gO (DZ P).t (dh P 817 (("rows",.obj 3)::("tape",.obj 2)::l) ([.dy o xs,.list sl,.list (x::ts),.list rws]++Gb) 40)=some (true,dh P 817 (("rows",.obj 3)::("tape",.obj 2)::l) ([.dy o xs,.list sl,.list (x::ts),.list rws]++Gb) 40):=⟨by kernel_rfl,fun x ts=>by kernel_rfl⟩
section
variable{sl:List AV}
abbrev WY(P:Params)(o:Obj)(xs sl:List AV)(e:Nat)(a b c:bQ)(ts:List Nat)(rws:List AV)(Gb:List AO):St:=dh P 817 (Xy e a b c) (Mx o xs sl ts rws Gb) 40
theorem QD(G:Good (cx P Z)):∀f ts rws Gb e a b c,ts.length<=f->f<=12->e<3->isLit a=true->isLit b=true->isLit c=true->rws.length+f<=1000->
  ∃p m j l r,(p<3/\isLit m=true/\isLit j=true/\isLit l=true)/\Sr (cx P Z) (DZ P).t (DZ P).b f (WY P o xs sl e a b c ts rws Gb) (WY P o xs sl p m j l [] (rws++(fh f ts).map Row.av) r):=by
 intro f;induction f with
 |zero=>
  intro ts rws Gb e a b c v s g q d i u;cases bI.mp (le_zero.mp v);exact Td e a b c Gb ⟨⟨g,q,d,i⟩,(eL (aF _) (.stop (uf G (Sv P o xs sl rws Gb _).1)))⟩
 |succ f x=>
  intro ts rws Gb e a b c v s g q d i u;rcases ts with _|⟨n,ts⟩
  .exact Td e a b c Gb ⟨⟨g,q,d,i⟩,(eL (aF _) (.stop (uf G (Sv P o xs sl rws Gb _).1)))⟩
  .have w:=Nat.le_of_succ_le_succ v;have e1:Ic e (n%7)<3:=by
    unfold Ic;cases Nat.blt (n%7) 5 with
    |true=>exact(by decide:2<3)
    |false=>
     cases e==0 with
     |true=>exact(by decide:1<3)
     |false=>exact g
   have lb:isLit (CL n b)=true:=by unfold CL;cases Nat.blt (n%7) 5<;>first|rfl|exact d
   have lc:isLit (Iz n ts c)=true:=by unfold Iz;cases Nat.blt (n%7) 5<;>first|rfl|exact i
   refine Rv (x (ts.drop (pC (n%7) (gJ n))) (rws++[(rowOf n ts).av]) (Gb++xj (n%7)) (Ic e (n%7)) (int n) (CL n b) (Iz n ts c) (by exact eL bw (dN 0x10F124F024F10 tt w (sub_le _ _))) (by exact gC 0x10FCB804FCB8C90 tt s) e1 rfl lb lc (by refine eL aa ?_;exact cC 0x10F8BEB3B8C1C904F8BEB3B8CC910 tt u)) fun p m j l r k h=>?_;refine Td p m j l r ⟨k,?_⟩
   rw [aw] at h;exact .turn (uf G ((Sv P o xs sl rws Gb _).2 _ _)) (Lh G g (by exact cC 0x10FBB814F014FCB8C90 tt s w) q d i (by exact cC 0x10F8BEB3B804F8BEB3B8CC910 tt u)) h
end
noncomputable def n6(n:Nat):List Fact:=(List.range (min n 12)).map fun i=>⟨.fmod,[.sym (12+i),.int 4294967296],.sym i⟩
def VL(P:Params)(o:Obj)(n:Nat):R Fl:=(R3 P (n6 n) []).fL ((bodyOf (KF P) 817).take 2) (dh P 817 [("script",.obj 0)] [.dy o (dc 12 n)] 40)
def VY(P:Params)(o:Obj)(n:Nat):R Fl:=some (.next,dh P 817 [("script",.obj 0),("tape",.obj 2),("rows",.obj 3)] [.dy o (dc 12 n),.list (dc 12 (min n 12)),.list (dc 0 (min n 12)),.list []] 40)
theorem SA(P)(o):(List.range 64).map (VL P o)=(List.range 64).map (VY P o):=by kernel_rfl
noncomputable abbrev cQ(ns:List Int):List AV:=ns.map fun n=>.lf (.int n)
noncomputable def eJ(ns:List Int):List Nat:=(ns.take 12).map fun n=>(n.fmod 4294967296).toNat
section
theorem tH(h:∀i,i<xs.length->some (AV.lf (θ (m+i)))=xs[i]?):subs θ (dc m xs.length)=xs:=by
 refine eL (cP ..) (eL bh (ext_getElem? fun i=>(eL aH ?_)));rcases aV i xs.length with q|q
 .refine eL (getElem?_range q) (eR (h i q) ?_);rfl
 .refine eL (aT (eL length_range q)) (eL (aT q) ?_);rfl
abbrev jF(ns:List Int):Nat->bQ:=qM ((eJ ns).map int) (ns.map .int)
theorem AA(h:i<12):jF ns i=(((eJ ns).map int)[i]?).getD .none:=by
 show(bif Nat.blt i 12 then cT _ i else _)=_;refine eL (blt_eq.mpr h) ?_;rfl
theorem uh:jF ns (12+i)=((ns.map bQ.int)[i]?).getD .none:=by
 show(bif Nat.blt (12+i) 12 then _ else cT _ (12+i-12))=_;refine eL (eq_false_iff.mpr fun z=>Nat.not_lt.mpr (aK 12 i) (blt_eq.mp z)) ?_;show(((ns.map bQ.int))[12+i-12]?).getD .none=_;exact eL (ba ..) rfl
theorem jg:(eJ ns).length=min ns.length 12:=by unfold eJ;exact eL (aj ..) (eL bE (eL (Nat.min_comm ..) rfl))
theorem PZ(G:Good (cx P Z))(n:ns.length<64):dz (cx P Z) ((bodyOf (KF P) 817).take 2) (dh P 817 [("script",.obj 0)] [.dy o (cQ ns)] 40) .next (WY P o (cQ ns) (cQ (ns.take 12)) 0 .none .none .none (eJ ns) [] []):=by
 have e:=bz.mp (SA P o) ns.length (bJ.mpr n);have lit:∀k,isLit (jF ns k)=true:=tZ (by exact eL all_map (ak.mpr fun _ _=>rfl)) (by exact eL all_map (ak.mpr fun _ _=>rfl));have f:Facts (jF ns) (n6 ns.length):=fun g hg=>by
  refine bW (bL.mp hg) fun i hi q=>?_;subst q
  have hi:=bJ.mp hi;have l:=aS hi (min_le_left _ _);have d:=aS hi (bO _ _);show ew .fmod [jF ns (12+i),.int 4294967296]=some (jF ns i);refine eL uh (eL (AA d) (eL aH (eL aH (eL aH (eL (getElem?_take_of_lt d) (eL (ao l) ?_))))));show(bif decide ((0:Int)<4294967296) then some (bQ.int (ns[i].fmod 4294967296)) else none)=some (int (ns[i].fmod 4294967296).toNat);refine eL (bo (by decide)) ?_;show some (bQ.int _)=some (bQ.int ((((ns[i].fmod 4294967296).toNat))));exact eL (Int.toNat_of_nonneg (Int.fmod_nonneg_of_pos _ (by decide))) rfl
 have z:=dY G ⟨lit,f,bU⟩ e;have h:subs (jF ns) (dc 12 ns.length)=cQ ns:=by
  have:=tH (θ:=jF ns) (xs:=cQ ns) fun i hi=>by
   refine eL uh (eL aH (eL aH ?_));refine eL (ao (eR (aj ..) hi)) ?_;rfl
  rwa [aj] at this
 have m:(ns.take 12).length=min ns.length 12:=by exact eL bE (eL (Nat.min_comm ..) rfl)
 have j:subs (jF ns) (dc 12 (min ns.length 12))=cQ (ns.take 12):=by
  have:=tH (θ:=jF ns) (xs:=cQ (ns.take 12)) fun i hi=>by
   rw [aj,m] at hi;have l:=aS hi (min_le_left _ _);have d:=aS hi (bO _ _);refine eL uh (eL aH (eL aH (eL (getElem?_take_of_lt d) (eL (ao l) ?_))));rfl
  rwa [aj,m] at this
 have r:subs (jF ns) (dc 0 (min ns.length 12))=jG (eJ ns):=by
  have:=tH (θ:=jF ns) (xs:=jG (eJ ns)) fun i hi=>by
   have t:=hi;unfold jG at hi;rw [aj,jg] at hi;have d:=aS hi (bO _ _);unfold jG;rw [Nat.zero_add,AA d,aH,aH,ao (by exact eL jg hi)];rfl
  rwa [show(jG (eJ ns)).length=min ns.length 12 by exact eL (aj ..) (eL jg rfl)] at this
 have p:St.sub (jF ns) (dh P 817 [("script",.obj 0)] [.dy o (dc 12 ns.length)] 40)=dh P 817 [("script",.obj 0)] [.dy o (cQ ns)] 40:=by
  show(⟨_,_,[AO.dy o (subs (jF ns) (dc 12 ns.length))],_⟩:St)=_;refine eL h ?_;rfl
 have s:St.sub (jF ns) (dh P 817 [("script",.obj 0),("tape",.obj 2),("rows",.obj 3)] [.dy o (dc 12 ns.length),.list (dc 12 (min ns.length 12)),.list (dc 0 (min ns.length 12)),.list []] 40)=dh P 817 [("script",.obj 0),("tape",.obj 2),("rows",.obj 3)] (Mx o (cQ ns) (cQ (ns.take 12)) (eJ ns) [] []) 40:=by
  show(⟨_,_,[AO.dy o (subs (jF ns) (dc 12 ns.length)),AO.list (subs (jF ns) (dc 12 (min ns.length 12))),AO.list (subs (jF ns) (dc 0 (min ns.length 12))),AO.list []],_⟩:St)=_;refine eL h (eL j (eL r ?_));rfl
 rw [p] at z;refine dz.look (s▸z) fun x=>?_
 have h:=dH (a:=[]) (b:=[("tape",.obj 2),("rows",.obj 3)]) (c:=lR) (by kernel_rfl) x;have j:=dH (a:=[]) (b:=[("rows",.obj 3)]) (c:=[("tape",.obj 2)]) (by kernel_rfl) x;show(([("rows",.obj 3),("tape",.obj 2)]:List (Str×AV))++lR).lookup x=(lR++([("tape",.obj 2),("rows",.obj 3)]:List (Str×AV))).lookup x;refine Eq.trans ?_ h.symm;rw [nil_append,cy,cy];exact az (fun o=>match o with|some a=>some a|none=>lR.lookup x) j.symm
end
structure p7 where
 t:Expr
 e:Expr
 b:List Stmt
 p:Pos
noncomputable def D1(s:Stmt):p7:=match s with
 |.For t e b [] p=>⟨t,e,b,p⟩
 |_=>⟨default,default,[],default⟩
def kU(P:Params):p7:=D1 (eA (bodyOf (KF P) 817) 4)
def Xm(n:List Nat)(b r:bQ):Ent:=⟨784,[],[],[],39,.ret (.lf r),[],some [.lf (tx n),.lf b]⟩
def Ro(n:List Nat)(af:bQ):Ent:=⟨805,[("after",.lf af),("w",.lf (.sym 3)),("name",.lf (tx n)),("content",.lf (.sym 2))],[],[],39,.ret (.lf (.sym 11)),[],none⟩
noncomputable def pZ(g:Nat):List Nat:=([[],[32],[10]][g]?).getD []
noncomputable def C6(n:bQ)(t:bQ)(r:List (Str×AV)):List (Str×AV):=("due",.obj 0)::("text",.lf t)::("name",.lf n)::("content",.lf (.sym 2))::("w",.lf (.sym 3))::r
def VU(g:Nat):List Fact:=[⟨.fdiv,[.sym 3,.int 3],.sym 4⟩,⟨.add,[tx [60,47],.sym 5],.sym 6⟩,⟨.fdiv,[.sym 3,.int 2],.sym 7⟩,⟨.fmod,[.sym 7,.int 3],int g⟩,⟨.add,[.sym 6,tx (pZ g)],.sym 8⟩,⟨.add,[.sym 8,ch 62],.sym 9⟩,⟨.add,[.sym 9,.sym 1],.sym 10⟩]
def ON(h:Nat):List Fact:=[⟨.add,[ch 60,.sym 12],.sym 13⟩,⟨.fmod,[.sym 3,.int 3],int h⟩,⟨.add,[.sym 13,tx (pZ h)],.sym 14⟩,⟨.add,[.sym 14,ch 62],.sym 15⟩,⟨.add,[.sym 15,.sym 11],.sym 16⟩]
noncomputable def SW(b:Bool):Fact:=⟨.truth,[.sym 2],.bool b⟩
abbrev rH(P:Params)(n t:bQ)(r:List (Str×AV))(o:List AO):St:=dh P 817 (C6 n t r) o 40
def wC:AO:=.list [.lf (tx []),.lf (tx [32]),.lf (tx [10])]
def Dp(n:bQ)(i:Nat):AO:=gD n i
def SH(n:bQ)(i:Nat):AO:=gp n i
def XC(P:Params)(r:List (Str×AV))(c:List Nat×Nat×Nat×Bool):R Fl:=(R3 P (SW c.2.2.2::(VU c.2.1++ON c.2.2.1)) [Xm c.1 (.sym 4) (.sym 5),Xm c.1 (.sym 3) (.sym 12),Ro c.1 (.sym 10)]).fL (kU P).b (rH P (tx c.1) (.sym 1) r [.fK [] 0 []])
noncomputable def Jc(b:Bool):List AV:=.obj 2::(bif b then[.lf (.sym 2),.obj 5] else[.obj 5])
def YF(P:Params)(r:List (Str×AV))(c:List Nat×Nat×Nat×Bool):R Fl:=some (.next,rH P (tx c.1) (.sym 16) r [.fK [] 0 (Jc c.2.2.2),wC,SH (tx c.1) 3,.list [],wC,Dp (tx c.1) 6,.dict []])
def TB:List (List Nat×Nat×Nat×Bool):=(gM.take 5).flatMap fun n=>(List.range 3).flatMap fun g=>(List.range 3).flatMap fun h=>OI.map fun b=>(n,g,h,b)
theorem Yj(P)(r):TB.map (XC P r)=TB.map (YF P r):=by kernel_rfl
def XU(P:Params)(r:List (Str×AV))(c:Nat×Bool):R Fl:=(R3 P (SW c.2::ON c.1) [Xm eN (.sym 3) (.sym 12),Ro eN (.sym 1)]).fL (kU P).b (rH P (tx eN) (.sym 1) r [.fK [] 0 []])
def ZA(P:Params)(r:List (Str×AV))(c:Nat×Bool):R Fl:=some (.next,rH P (tx eN) (.sym 16) r [.fK [] 0 (bif c.2 then[.lf (.sym 2),.obj 2] else[.obj 2]),wC,Dp (tx eN) 3,.dict []])
def Ub:List (Nat×Bool):=(List.range 3).flatMap fun h=>OI.map fun b=>(h,b)
theorem YX(P)(r):Ub.map (XU P r)=Ub.map (ZA P r):=by kernel_rfl
theorem Ml(P)(r es):(R3 P [SW false] [Ro [] (.sym 1)]).fL (kU P).b (rH P (tx []) (.sym 1) r [.fK [] 0 []])=some (.next,rH P (tx []) (.sym 11) r [.fK [] 0 []])/\
  (R3 P [SW true] [Ro [] (.sym 1)]).fL (kU P).b (rH P (tx []) (.sym 1) r [.list []])=some (.next,rH P (tx []) (.sym 11) r [.list [.lf (.sym 2)]])/\
  (R3 P [SW true,⟨.len,[.sym 17],.sym 19⟩,⟨.add,[.sym 2,.sym 17],.sym 18⟩] [Ro [] (.sym 1)]).fL (kU P).b (rH P (tx []) (.sym 1) r [.fK [] 0 [.lf (.sym 17)]])=some (.next,rH P (tx []) (.sym 11) r [.fK [] 0 [.lf (.sym 18)]])/\
  (R3 P [SW true] [Ro [] (.sym 1)]).fL (kU P).b (rH P (tx []) (.sym 1) r [.fK [] 0 [.obj 1],.dict es])=some (.next,rH P (tx []) (.sym 11) r [.fK [] 0 [.obj 1,.lf (.sym 2)],.dict es]):=⟨by kernel_rfl,by kernel_rfl,by kernel_rfl,by kernel_rfl⟩
noncomputable def Kg(q:Nat)(n c w:AV):List (Str×AV):=match q with
 |0=>[]
 |1=>[("name",n),("content",c)]
 |_=>[("name",n),("content",c),("w",w)]
def Ds(e:Nat)(a:AV):List (Str×AV):=("rows",.obj 3)::("tape",.obj 2)::(match e with|0=>lR|_=>("n",a)::lR)
noncomputable def cJ(n:List Nat)(b:Nat):List Nat:=n.zipIdx.map fun p=>bif b/2^p.2%2 !=0 then p.1-32 else p.1
def jz(r:Row)(T:List Nat):List Nat:=60::47::cJ r.nm (r.w/3)++pZ (r.w/2%3)++[62]++T
def jE(r:Row)(T:List Nat):List Nat:=(r.ct.foldr (fun c p=>gG r.nm p c) (r.w,T)).2
def startT(r:Row)(T:List Nat):List Nat:=60::cJ r.nm r.w++pZ (r.w%3)++[62]++T
def eE(r:Row)(T:List Nat):List Nat:=bif r.nm.isEmpty then jE r T else bif r.nm==eN then startT r (jE r T) else startT r (jE r (jz r T))
abbrev IC(P:Params)(Z:Heap×Program×World):Prop:=∀n∈gM,∀b,pd (cx P Z) 784 39 [.lf (tx n),.lf (int b)] (.lf (tx (cJ n b)))
section
theorem AF(g):(pZ g).length<=1:=by
 rcases g with _|_|_|g<;>first|decide|exact zero_le _
theorem gj(n)(b):(cJ n b).length=n.length:=by unfold cJ;exact eL (aj ..) (eL List.length_zipIdx rfl)
theorem jy:∀n∈gM,n.length<=9:=by decide
theorem yz(c:IC P Z)(d:n∈gM)(e:∀k,isLit (θ k)=true)(hb:b.sub θ=int k)(a:x.sub θ=tx (cJ n k)):fR ((cx P Z).sy θ Φ) (Xm n b x):=
 .z3 e rfl rfl (by
  show pd _ _ _ [.lf (tx n),.lf (b.sub θ)] (.lf (x.sub θ));exact eL hb (eL a (c n d k)))
theorem mZ(G:Good (cx P Z))(d:n∈FF)(e:∀k,isLit (θ k)=true)(i:θ 2=tx ct)(b:θ 3=int w)(h:af.sub θ=tx a)(f:θ 11=tx (ct.foldr (fun c p=>gG n p c) (w,a)).2)(g:∀x∈ct,x∈AL)(j:∀x∈a,x∈AL)(hb:a.length+6*ct.length<=9000):fR ((cx P Z).sy θ Φ) (Ro n af):=
 eO e rfl rfl (by
  show(⟨_,[("after",.lf (af.sub θ)),("w",.lf (θ 3)),("name",.lf (tx n)),("content",.lf (θ 2))],_,_⟩:St)=_;refine eL h (eL b (eL i ?_));rfl) (by show Fl.ret (.lf (θ 11))=_;exact eL f rfl) rfl (PW G d g j hb)
abbrev oA(b:List Value)(n T ct:List Nat)(w:Nat)(a:List Nat):List bQ:=[.vals b,tx T,tx ct,int w,int (w/3),tx (cJ n (w/3)),tx ([60,47]++cJ n (w/3)),int (w/2),tx ([60,47]++cJ n (w/3)++pZ (w/2%3)),tx ([60,47]++cJ n (w/3)++pZ (w/2%3)++[62]),tx ([60,47]++cJ n (w/3)++pZ (w/2%3)++[62]++T),tx (ct.foldr (fun c p=>gG n p c) (w,a)).2,
 tx (cJ n w),tx ([60]++cJ n w),tx ([60]++cJ n w++pZ (w%3)),tx ([60]++cJ n w++pZ (w%3)++[62]),tx ([60]++cJ n w++pZ (w%3)++[62]++(ct.foldr (fun c p=>gG n p c) (w,a)).2)]
theorem ow{b:List Nat}(h:a.length<=p)(k:b.length<=q):(a++b).length<=p+q:=eL aa (add_le_add h k)
theorem UN(d:n∈gM)(hT:T.length<=9000):Facts (cT (oA f n T ct w e)) (VU (w/2%3)):=by
 have b:∀m,m<=10000->m<=big:=fun m h=>ag h (by decide)
 have gs:∀θ,(tx (pZ (w/2%3))).sub θ=tx (pZ (w/2%3)):=fun _=>rfl
 have c1:=ow (a:=[60,47]) (ah _) (ag (Nat.le_of_eq (gj n (w/3))) (jy n d));have c2:=ow c1 (AF (w/2%3));have c:=ow c2 (b:=[62]) (ah 1);exact bP (iK w (by decide) (by decide)) (bP (fX (b _ (ag c1 (by decide)))) (bP (iK w (by decide) (by decide)) (bP (gu (w/2) (by decide)) (bP (fX (b _ (ag c2 (by decide)))) (bP (fX (b _ (ag c (by decide)))) (bP (fX (b _ (ag (ow c hT) (by decide)))) bR))))))
theorem Oi(e:n∈gM)(hT:(ct.foldr (fun c p=>gG n p c) (w,f)).2.length<=9000):Facts (cT (oA g n T ct w f)) (ON (w%3)):=by
 have b:∀m,m<=10000->m<=big:=fun m h=>ag h (by decide)
 have c1:=ow (a:=[60]) (ah _) (ag (Nat.le_of_eq (gj n w)) (jy n e));have c2:=ow c1 (AF (w%3));have d:=ow c2 (b:=[62]) (ah 1);exact bP (fX (b _ (ag c1 (by decide)))) (bP (gu w (by decide)) (bP (fX (b _ (ag c2 (by decide)))) (bP (fX (b _ (ag d (by decide)))) (bP (fX (b _ (ag (ow d hT) (by decide)))) bR))))
theorem OB:ew .truth [tx ct]=some (.bool (!ct.isEmpty)):=by
 rcases ct with _|⟨c,ct⟩
 .rfl
 .exact jA (aZ _ _)
end
section
theorem tP(N)(p):∀ct:List Nat,(ct.foldr (fun c p=>gG N p c) p).2.length<=p.2.length+6*ct.length:=by
 intro ct;induction ct with
 |nil=>exact ah _
 |cons c ct a=>
  exact eL aa (eL ay (eL (mul_succ ..) (eR (Nat.add_assoc ..) (eL (Nat.add_comm ..) (add_le_add a xM)))))
theorem Je(N)(p)(hp:∀x∈p.2,x∈AL):∀ct:List Nat,(∀x∈ct,x∈AL)->∀x∈(ct.foldr (fun c p=>gG N p c) p).2,x∈AL:=by
 intro ct;induction ct with
 |nil=>exact fun _=>hp
 |cons c ct b=>exact fun h x a=>(bg.mp a).elim (Fz (h c (.head _)) x) (b (fun y d=>h y (.tail _ d)) x)
theorem HT:∀n∈gM,∀c∈n,c∈AL/\c-32∈AL:=by decide+kernel
theorem rM(c:n∈gM):∀x∈cJ n b,x∈AL:=fun x a=>by
 refine bW (bL.mp a) fun p hp e=>?_;have k:=HT n c p.1 (aR (mem_zipIdx_iff_getElem?.mp hp))
 refine eR e ?_;cases b/2^p.2%2 !=0 with
 |true=>exact k.2
 |false=>exact k.1
theorem Ff(g):∀x∈pZ g,x∈AL:=by
 rcases g with _|_|_|g<;>first|decide|exact fun x a=>iS a
theorem Ay(b:r.nm∈gM)(hT:∀x∈T,x∈AL):∀x∈jz r T,x∈AL:=fun x a=>by
 have h:x∈[60,47]++cJ r.nm (r.w/3)++pZ (r.w/2%3)++[62]++T:=a;simp only [bg] at h;rcases h with(((h|h)|h)|h)|h
 .exact (by decide:∀x∈[60,47],x∈AL) x h
 .exact rM b x h
 .exact Ff _ x h
 .exact (by decide:∀x∈[62],x∈AL) x h
 .exact hT x h
theorem sH(b:r.nm∈gM)(hT:∀x∈T,x∈AL):∀x∈startT r T,x∈AL:=fun x a=>by
 have h:x∈[60]++cJ r.nm r.w++pZ (r.w%3)++[62]++T:=a;simp only [bg] at h;rcases h with(((h|h)|h)|h)|h
 .exact (by decide:∀x∈[60],x∈AL) x h
 .exact rM b x h
 .exact Ff _ x h
 .exact (by decide:∀x∈[62],x∈AL) x h
 .exact hT x h
theorem mR(a:r.nm∈gM):(jz r T).length<=T.length+13/\(startT r T).length<=T.length+12:=by
 have l:=jy _ a;unfold jz startT;simp only [aa,ay,length_nil,(gj r.nm (r.w/3)),(gj r.nm r.w)];exact⟨dN 0x10FCDB82C2CC98C0C9C914F9B814F90 tt (AF (r.w/2%3)) l,dN 0x10FCCB82C2CC98C0C914F9B814F90 tt (AF (r.w%3)) l⟩
theorem Gf:∀n∈gM,n∈FF:=by decide
theorem KQ:∀n∈gM,n≠eN->n∈gM.take 5:=by decide
variable(G:Good (cx P Z))(hC:IC P Z)
include G hC
theorem Lb(c:r.nm∈gM)(hp:r.nm≠eN)(j:∀x∈r.ct,x∈AL)(i:∀x∈T,x∈AL)(hb:T.length+6*r.ct.length+30<=9000)(g:a.length<=1000):
  dz (cx P Z) (kU P).b (dh P 817 (("due",.obj 0)::("text",.lf (tx T))::("name",.lf (tx r.nm))::("content",.lf (tx r.ct))::("w",.lf (int r.w))::cm α rr) [.list (cp a++[])] 40) .next
   (dh P 817 (("due",.obj 0)::("text",.lf (tx (eE r T)))::("name",.lf (tx r.nm))::("content",.lf (tx r.ct))::("w",.lf (int r.w))::cm α rr)
    ([.list (cp a++(.obj 2::(bif !r.ct.isEmpty then[.lf (tx r.ct),.obj 5] else[.obj 5])))]++[wC,SH (tx r.nm) 3,.list [],wC,Dp (tx r.nm) 6,.dict []]) 40):=by
 have h:=bz.mp (Yj P (cm α rr)) (r.nm,r.w/2%3,r.w%3,!r.ct.isEmpty) (mem_flatMap.mpr ⟨_,KQ _ c hp,mem_flatMap.mpr ⟨_,bJ.mpr (mod_lt _ (by decide)),mem_flatMap.mpr ⟨_,bJ.mpr (mod_lt _ (by decide)),bL.mpr ⟨_,(by cases r.ct.isEmpty<;>decide),rfl⟩⟩⟩⟩);have le:=(mR (T:=T) c).1;have e:=tP r.nm (r.w,jz r T) r.ct;have lit:(oA a r.nm T r.ct r.w (jz r T)).all isLit=true:=rfl;have z:=dY G (gK lit (bP OB (dI (UN c (cC 0x10F8B2B3BA04F8B2B3BACEB9CD16B80 tt hb)) (Oi c (by show _<=9000;have:=e;exact kF 0x10F8B2B3BA34FCD26B8034F8B2B3BACEB9CD26B814FCDB810 tt le hb e))))
  (cg (yz hC c (lL lit) rfl rfl) (cg (yz hC c (lL lit) rfl rfl) (cg (mZ G (Gf _ c) (lL lit) rfl rfl rfl rfl j (Ay c i) (dN 0x10F8B2B3BACD26B804F8B2B3BACEB9CD26B814FCDB810 tt le hb)) bU)))) h
 have d:=fB g;have ne:r.nm.isEmpty=false:=by
  have:∀n∈gM,n.isEmpty=false:=by decide
  exact this _ c
 have k:eE r T=startT r (jE r (jz r T)):=by unfold eE;refine eL ne (eL (aN.mpr hp) ?_);rfl
 have f:St.sub (cT (oA a r.nm T r.ct r.w (jz r T))) (rH P (tx r.nm) (.sym 1) (cm α rr) [.fK [] 0 []])=dh P 817 (("due",.obj 0)::("text",.lf (tx T))::("name",.lf (tx r.nm))::("content",.lf (tx r.ct))::("w",.lf (int r.w))::cm α rr) [.list (cp a++[])] 40:=by
  show(⟨_,("due",_)::("text",_)::("name",_)::("content",_)::("w",_)::cY _ (cm α rr),[AO.list (kD (.vals a)++[])],_⟩:St)=_;refine eL dC (eL d ?_);rfl
 have l:St.sub (cT (oA a r.nm T r.ct r.w (jz r T))) (rH P (tx r.nm) (.sym 16) (cm α rr) [.fK [] 0 (Jc !r.ct.isEmpty),wC,SH (tx r.nm) 3,.list [],wC,Dp (tx r.nm) 6,.dict []]) =
   dh P 817 (("due",.obj 0)::("text",.lf (tx (eE r T)))::("name",.lf (tx r.nm))::("content",.lf (tx r.ct))::("w",.lf (int r.w))::cm α rr)
    ([.list (cp a++(.obj 2::(bif !r.ct.isEmpty then[.lf (tx r.ct),.obj 5] else[.obj 5])))]++[wC,SH (tx r.nm) 3,.list [],wC,Dp (tx r.nm) 6,.dict []]) 40:=by
  have q:subs (cT (oA a r.nm T r.ct r.w (jz r T))) (Jc !r.ct.isEmpty)=.obj 2::(bif !r.ct.isEmpty then[.lf (tx r.ct),.obj 5] else[.obj 5]):=by
   cases !r.ct.isEmpty<;>rfl
  show(⟨_,("due",_)::("text",_)::("name",_)::("content",_)::("w",_)::cY _ (cm α rr),AO.list (kD (.vals a)++subs _ (Jc !r.ct.isEmpty))::_,_⟩:St)=_;refine eL dC (eL d (eL q (eL k ?_)));rfl
 exact l▸(eR f z)
end
section
variable{T:List Nat}{r:Row}{es:List (Str×AV)}{vs:List Value}{n:List Nat}{α:Str->Value}
abbrev dL(r:Row)(T:List Nat)(l:List (Str×AV)):List (Str×AV):=("due",.obj 0)::("text",.lf (tx T))::("name",.lf (tx r.nm))::("content",.lf (tx r.ct))::("w",.lf (int r.w))::l
variable(G:Good (cx P Z))(hl:∀x∈r.ct,x∈AL)(hA:∀x∈T,x∈AL)(hb:T.length+6*r.ct.length+30<=9000)
include G hl hA hb
theorem OV(h:IC P Z)(hp:r.nm=eN)(f:vs.length<=1000):dz (cx P Z) (kU P).b (dh P 817 (dL r T (cm α rr)) [.list (cp vs++[])] 40) .next
   (dh P 817 (dL r (eE r T) (cm α rr)) ([.list (cp vs++(bif !r.ct.isEmpty then[.lf (tx r.ct),.obj 2] else[.obj 2]))]++[wC,Dp (tx r.nm) 3,.dict []]) 40):=by
 obtain⟨nm,ct,w⟩:=r;cases hp;have a:eN∈gM:=by decide
 have g:=bz.mp (YX P (cm α rr)) (w%3,!ct.isEmpty) (mem_flatMap.mpr ⟨_,bJ.mpr (mod_lt _ (by decide)),bL.mpr ⟨_,(by cases ct.isEmpty<;>decide),rfl⟩⟩);have d:=tP eN (w,T) ct;have lit:(oA vs eN T ct w T).all isLit=true:=rfl;have hb:=hb;have z:=dY G (gK lit (bP OB (Oi a (by show _<=9000;have:=d;exact dN 0x10F8B2B3BA24FCD16B8024F8B2B3BACEB9CD16B80 tt hb d)))
  (cg (yz h a (lL lit) rfl rfl) (cg (mZ G (Gf _ a) (lL lit) rfl rfl rfl rfl hl hA (cC 0x10F8B2B3BACD16B804F8B2B3BACEB9CD16B80 tt hb)) bU))) g
 have c:=fB f;have e:St.sub (cT (oA vs eN T ct w T)) (rH P (tx eN) (.sym 1) (cm α rr) [.fK [] 0 []])=dh P 817 (dL ⟨eN,ct,w⟩ T (cm α rr)) [.list (cp vs++[])] 40:=by
  show(⟨_,("due",_)::("text",_)::("name",_)::("content",_)::("w",_)::cY _ (cm α rr),[AO.list (kD (.vals vs)++[])],_⟩:St)=_;refine eL dC (eL c ?_);rfl
 have i:St.sub (cT (oA vs eN T ct w T)) (rH P (tx eN) (.sym 16) (cm α rr) [.fK [] 0 (bif !ct.isEmpty then[.lf (.sym 2),.obj 2] else[.obj 2]),wC,Dp (tx eN) 3,.dict []]) =
   dh P 817 (dL ⟨eN,ct,w⟩ (eE ⟨eN,ct,w⟩ T) (cm α rr)) ([.list (cp vs++(bif !ct.isEmpty then[.lf (tx ct),.obj 2] else[.obj 2]))]++[wC,Dp (tx eN) 3,.dict []]) 40:=by
  have q:subs (cT (oA vs eN T ct w T)) (bif !ct.isEmpty then[.lf (.sym 2),.obj 2] else[.obj 2])=bif !ct.isEmpty then[.lf (tx ct),.obj 2] else[.obj 2]:=by cases !ct.isEmpty<;>rfl
  show(⟨_,("due",_)::("text",_)::("name",_)::("content",_)::("w",_)::cY _ (cm α rr),AO.list (kD (.vals vs)++subs _ _)::_,_⟩:St)=_;refine eL dC (eL c (eL q (eL (rfl:eE ⟨eN,ct,w⟩ T=startT ⟨eN,ct,w⟩ (jE ⟨eN,ct,w⟩ T)) ?_)));rfl
 exact i▸(eR e z)
theorem Uy(hp:r.nm=[])(c:r.ct=[])(a:vs.length<=1000):dz (cx P Z) (kU P).b (dh P 817 (dL r T (cm α rr)) [.list (cp vs++[])] 40) .next (dh P 817 (dL r (eE r T) (cm α rr)) [.list (cp vs++[])] 40):=by
 obtain⟨nm,ct,w⟩:=r;cases hp;cases c;have lit:(oA vs [] T [] w T).all isLit=true:=rfl;have z:=dY G (gK lit (bP rfl bR) (cg (mZ G (.head _) (lL lit) rfl rfl rfl rfl hl hA (by have:=hb;show T.length+6*0<=9000;exact cC 0x10F8B2B3BACD86B804F8B2B3BACEB9CD16B80 tt hb)) bU)) (Ml P (cm α rr) []).1;have u:∀t T',t.sub (cT (oA vs [] T [] w T))=tx T'->St.sub (cT (oA vs [] T [] w T)) (rH P (tx []) t (cm α rr) [.fK [] 0 []])=dh P 817 (dL ⟨[],[],w⟩ T' (cm α rr)) [.list (cp vs++[])] 40:=fun t T' e=>by
  show(⟨_,("due",_)::("text",.lf (t.sub _))::("name",_)::("content",_)::("w",_)::cY _ (cm α rr),[AO.list (kD (.vals vs)++[])],_⟩:St)=_;refine eL dC (eL (fB a) (eL e ?_));rfl
 rw [u _ T rfl,u _ (eE ⟨[],[],w⟩ T) rfl] at z;exact z
theorem Hl(hp:r.nm=[])(c:r.ct≠[]):dz (cx P Z) (kU P).b (dh P 817 (dL r T (cm α rr)) [.list []] 40) .next (dh P 817 (dL r (eE r T) (cm α rr)) [.list [.lf (tx r.ct)]] 40):=by
 obtain⟨nm,ct,w⟩:=r;cases hp;have lit:(oA [] [] T ct w T).all isLit=true:=rfl;have z:=dY G (gK lit (bP (jA c) bR) (cg (mZ G (.head _) (lL lit) rfl rfl rfl rfl hl hA (ag (aK _ 30) hb)) bU)) (Ml P (cm α rr) []).2.1;have u:∀t T' o o',t.sub (cT (oA [] [] T ct w T))=tx T'->subs (cT (oA [] [] T ct w T)) o=o'->St.sub (cT (oA [] [] T ct w T)) (rH P (tx []) t (cm α rr) [.list o])=dh P 817 (dL ⟨[],ct,w⟩ T' (cm α rr)) [.list o'] 40:=fun t T' o o' e a=>by
  show(⟨_,("due",_)::("text",.lf (t.sub _))::("name",_)::("content",_)::("w",_)::cY _ (cm α rr),[AO.list (subs _ o)],_⟩:St)=_;refine eL dC (eL a (eL e ?_));rfl
 exact eR (u _ (eE ⟨[],ct,w⟩ T) [.lf (.sym 2)] [.lf (tx ct)] rfl rfl) (eR (u _ T [] [] rfl rfl) z)
theorem JV(hp:r.nm=[])(f:r.ct≠[])(a:(r.ct++x).length<=big)(d:vs.length<=1000):dz (cx P Z) (kU P).b (dh P 817 (dL r T (cm α rr)) [.list (cp vs++[.lf (tx x)])] 40) .next (dh P 817 (dL r (eE r T) (cm α rr)) [.list (cp vs++[.lf (tx (r.ct++x))])] 40):=by
 obtain⟨nm,ct,w⟩:=r;cases hp;have lit:(oA vs [] T ct w T++[tx x,tx (ct++x),int x.length]).all isLit=true:=rfl;have z:=dY G (gK lit (bP (jA f) (bP kY (bP (fX a) bR))) (cg (mZ G (.head _) (lL lit) rfl rfl rfl rfl hl hA (ag (aK _ 30) hb)) bU)) (Ml P (cm α rr) []).2.2.1;have u:∀t T' o x',t.sub (cT (oA vs [] T ct w T++[tx x,tx (ct++x),int x.length]))=tx T'->o.sub (cT (oA vs [] T ct w T++[tx x,tx (ct++x),int x.length]))=tx x'->St.sub (cT (oA vs [] T ct w T++[tx x,tx (ct++x),int x.length])) (rH P (tx []) t (cm α rr) [.fK [] 0 [.lf o]])=dh P 817 (dL ⟨[],ct,w⟩ T' (cm α rr)) [.list (cp vs++[.lf (tx x')])] 40:=fun t T' o x' e c=>by
  show(⟨_,("due",_)::("text",.lf (t.sub _))::("name",_)::("content",_)::("w",_)::cY _ (cm α rr),[AO.list (kD (.vals vs)++[.lf (o.sub _)])],_⟩:St)=_;refine eL dC (eL (fB d) (eL c (eL e ?_)));rfl
 exact eR (u _ (eE ⟨[],ct,w⟩ T) _ (ct++x) rfl rfl) (eR (u _ T _ x rfl rfl) z)
theorem BQ(hp:r.nm=[])(d:r.ct≠[])(β)(ns)(c:vs.length<=1000):dz (cx P Z) (kU P).b (dh P 817 (dL r T (cm α rr)) [.list (cp vs++[.obj 1]),.dict (lC ns β)] 40) .next (dh P 817 (dL r (eE r T) (cm α rr)) [.list (cp vs++[.obj 1,.lf (tx r.ct)]),.dict (lC ns β)] 40):=by
 obtain⟨nm,ct,w⟩:=r;cases hp;have lit:(oA vs [] T ct w T).all isLit=true:=rfl;have z:=dY G (gK lit (bP (jA d) bR) (cg (mZ G (.head _) (lL lit) rfl rfl rfl rfl hl hA (ag (aK _ 30) hb)) bU)) (Ml P (cm α rr) (lC ns β)).2.2.2;have u:∀t T' o o',t.sub (cT (oA vs [] T ct w T))=tx T'->subs (cT (oA vs [] T ct w T)) o=o'->St.sub (cT (oA vs [] T ct w T)) (rH P (tx []) t (cm α rr) [.fK [] 0 o,.dict (lC ns β)])=dh P 817 (dL ⟨[],ct,w⟩ T' (cm α rr)) [.list (cp vs++o'),.dict (lC ns β)] 40:=fun t T' o o' e a=>by
  show(⟨_,("due",_)::("text",.lf (t.sub _))::("name",_)::("content",_)::("w",_)::cY _ (cm α rr),[AO.list (kD (.vals vs)++subs _ o),AO.dict (cY _ (lC ns β))],_⟩:St)=_;refine eL dC (eL (fB c) (eL a (eL e (eL oR ?_))));rfl
 exact eR (u _ (eE ⟨[],ct,w⟩ T) [.obj 1,.lf (.sym 2)] [.obj 1,.lf (tx ct)] rfl rfl) (eR (u _ T [.obj 1] [.obj 1] rfl rfl) z)
end
section
variable{B:List AO}
abbrev dB(d:Nat)(r:Row)(T:List Nat)(l:List (Str×AV)):List (Str×AV):=("due",.obj d)::("text",.lf (tx T))::("name",.lf (tx r.nm))::("content",.lf (tx r.ct))::("w",.lf (int r.w))::l
theorem Yl:∀i j,[g][i]?=some j->gV [g] j=some i:=fun i j e=>by
 rcases i with _|i
 .cases e;unfold gV;refine eL findIdx?_cons (eL (bk ..) ?_);rfl
 .exact cX e
theorem yX(r)(T T'):((dL r T []).all fun p=>((dL r T' []).lookup p.1).isSome)=true:=by kernel_rfl
theorem qR(hd:B[d]?=some (.list (xs++ys)))(e:∀c,dE c ys=ys)
  (t:∀(α:Str->Value) (a:List Value),a.length=xs.length->dz (cx P Z) (kU P).b (dh P 817 (dL r T (cm α rr)) [.list (cp a++ys)] 40) .next (dh P 817 (dL r T' (cm α rr)) ([.list (cp a++zs)]++N) 40)):
  dz (cx P Z) (kU P).b (dh P 817 (dB d r T rr) B 40) .next (dh P 817 (dB d r T' rr) (B.set d (.list (xs++dE (fD [d] B.length) zs))++N.map (AO.ed (fD [d] B.length))) 40):=by
 exact dz.Ba Yl (eL (e ..) hd) (getElem?_set_self ((au.mp hd).1))
  (fun F Ω H=>(dJ ([]) ([]) ⟨rfl,rfl,fun i j o h=>cX (getElem?_nil.symm.trans h),fun i j o h=>cX (getElem?_nil.symm.trans h),t⟩)) (fun x=>rfl) (fun x=>rfl) (kB (yX r T T')) (fun j h=>iS h) bH (fun k f=>bq fun q=>f (by exact eL q (.head _))) (.inl rfl)
theorem MC(hd:B[d]?=some (.list (xs++[.obj j])))(e:B[j]?=some (.dict es))(ne:d≠j)
  (t:∀(α:Str->Value) (c:List Value) (β:Nat->Value) (ns:List Str),c.length=xs.length->dz (cx P Z) (kU P).b (dh P 817 (dL r T (cm α rr)) [.list (cp c++[.obj 1]),.dict (lC ns β)] 40) .next (dh P 817 (dL r T' (cm α rr)) [.list (cp c++[.obj 1,x]),.dict (lC ns β)] 40)) (m:∀i,x.ed i=x):
  dz (cx P Z) (kU P).b (dh P 817 (dB d r T rr) B 40) .next (dh P 817 (dB d r T' rr) (B.set d (.list (xs++[.obj j,x]))) 40):=by
 have q:=dz.Ba (C:=cx P Z) (zs:=[.obj 1,x]) (MT ne) hd (by
  show _=some (AO.list (xs++[.obj j,x.ed _]));exact eL (m ..) (getElem?_set_self ((au.mp hd).1)))
  (fun F Ω H=>by
   refine bW (jc (fun _=>true) (H.rel.ob _ _ e)) fun a h g=>?_;rw [lX] at h g
   refine dJ ([.dict (lC (es.map (·.1)) a)]) ([.dict (lC (es.map (·.1)) a)]) ⟨rfl,rfl,ku ?_,ku ?_,fun α c l=>t α c a _ l⟩
   .show gz _ _ _ _ (.dict (cE _ (lC _ a)));exact eL kC h
   .refine ⟨_,(bq ne).trans e,?_⟩;show Bp _ _ _ (.dict (cE _ (lC _ a)));exact eL kC g) (fun x=>rfl) (fun x=>rfl) (kB (yX r T T')) (fun k f=>aB.mp f▸((au.mp e).1)) bH (fun k f=>bq fun q=>f (by exact eL q (.head _))) (.inl rfl)
 rw [map_nil,aF] at q;exact q
noncomputable def NC(g:Tg):AO:=bif g.st then .dict [] else .list []
def AQ(g:Tg)(i:Nat):AO:=bif g.st then gD (tx g.nm) i else gp (tx g.nm) i
def jK(d:Nat)(B:List AO)(x:AV)(y:Itm):Prop:=match y with
 |.tx t=>x=.lf (tx t)
 |.tag g=>∃j i,x=.obj j/\(j≠d/\i≠d)/\B[j]?=some (AQ g i)/\B[i]?=some (NC g)
theorem jK.keep(h:jK d B x y)(k:∀(j:Nat) o,j≠d->B[j]?=some o->B'[j]?=some o):jK d B' x y:=by
 induction y with
 |tx t=>exact h
 |tag g=>exact rm h fun j i e n a b=>(dJ j i ⟨e,n,k j _ n.1 a,k i _ n.2 b⟩)
theorem jh(j)(o)(h:j≠d)(e:B[j]?=some o):(B.set d x'++N)[j]?=some o:=by
 rw [aJ (eL bH ((au.mp e).1)),bq h.symm];exact e
def fY(D:List Itm)(r:Row):List Itm:=bif r.nm.isEmpty then(bif r.ct.isEmpty then D else match D.getLast? with
  |some (.tx x)=>D.dropLast++[.tx (r.ct++x)]
  |_=>D++[.tx r.ct])
 else D++((bif r.nm==eN then[] else[.tag ⟨false,r.nm⟩])++(lW r.ct []++[.tag ⟨true,r.nm⟩]))
structure nW(d:Nat)(B:List AO)(D:List Itm):Prop where
 ex:∃dv,B[d]?=some (.list dv)/\F2 (jK d B) dv D
 len:D.length<=1000
theorem F2.app{R:α->β->Prop}(h:F2 R a d)(t:F2 R b e):F2 R (a++b) (d++e):=by
 induction h with
 |nil=>exact t
 |cons h _ c=>exact .cons h c
theorem F2.d5{R:α->β->Prop}(h:F2 R a l):l=c::bs->∃x b,a=x::b/\R x c/\F2 R b bs:=by
 induction h with
 |nil=>exact fun e=>KZ e
 |cons h t=>exact fun e=>dJ _ _ ⟨rfl,(List.cons.inj e).1▸h,(List.cons.inj e).2▸t⟩
theorem F2.snoc{β:Type}{R:α->β->Prop}{b:List β}{y:β}:∀ {a:List α},F2 R a (b++[y])->∃a0 x,a=a0++[x]/\F2 R a0 b/\R x y:=by
 induction b with
 |nil=>exact fun {a} h=>cw (h.d5 rfl) fun x d e r t=>dJ [] x ⟨eL e (az (x::·) (List.eq_nil_of_length_eq_zero t.len)),.nil,r⟩
 |cons c b j=>exact fun {a} h=>cw (h.d5 rfl) fun x d e r t=>cw (j t) fun a0 x' i f g=>dJ (x::a0) x' ⟨eL e (eL i rfl),.cons r f,g⟩
end
section
variable{B B' N:List AO}{xs ys zs dv:List AV}{d j i:Nat}{D:List Itm}{x:AV}{y:Itm}{o x':AO}
theorem zL(k):(B.set d x'++N)[B.length+k]?=N[k]?:=by
 exact eL (aI (by exact eL bH (aK _ _))) (eL bH (eL (ba ..) rfl))
theorem pN(h:d<B.length):(B.set d x'++N)[d]?=some x':=by
 exact eL (aJ (by exact eL bH h)) (getElem?_set_self h)
theorem mz(h:F2 (jK d B) dv D):F2 (jK d (B.set d x'++N)) dv D:=h.mono fun _ _ k=>k.keep jh
theorem tK(hd:d<B.length)(a:N[k]?=some (AQ g (B.length+(k+1))))(b:N[k+1]?=some (NC g)):jK d (B.set d x'++N) (.obj (B.length+k)) (.tag g):=
 (dJ (B.length+k) (B.length+(k+1)) ⟨rfl,⟨bC (aS hd (aK _ _)),bC (aS hd (aK _ _))⟩,by exact eL (zL ..) a,by exact eL (zL ..) b⟩)
variable(G:Good (cx P Z))(hC:IC P Z)
include G hC
theorem JI(H:nW d B D)(h:r.nm=[]\/r.nm∈gM)(s:∀x∈r.ct,x∈AL)(p:∀x∈T,x∈AL)(hb:T.length+6*r.ct.length+30<=9000)(hD:D.length<=900)(O:∀x,D.getLast?=some (.tx x)->x.length<=10000):
  ∃B',dz (cx P Z) (kU P).b (dh P 817 (dB d r T rr) B 40) .next (dh P 817 (dB d r (eE r T) rr) B' 40)/\nW d B' (fY D r)/\∀j o,j≠d->B[j]?=some o->B'[j]?=some o:=by
 refine bW H.ex fun dv hd q=>?_;have m:=(au.mp hd).1
 have lv:=q.len▸hD;have C:B[d]?=some (.list (dv++[])):=by exact eL (aF ..) hd
 rcases h with h|h
 .have e1:fY D r=bif r.ct.isEmpty then D else match D.getLast? with
    |some (.tx x)=>D.dropLast++[.tx (r.ct++x)]
    |_=>D++[.tx r.ct]:=by unfold fY;refine eL h ?_;rfl
  refine eL e1 ?_;rcases l:r.ct with _|⟨c,ct⟩
  .exact ⟨_,qR C (fun _=>rfl) fun α v a=>Uy G s p hb h l (by exact eL a (ag lv (by decide))),⟨⟨_,pN m,by exact eL (aF dv:dv++dE (fD [d] B.length) []=dv) (mz q)⟩,H.len⟩,jh⟩
  .have ne:r.ct≠[]:=by exact eL l (aZ _ _)
   refine eR l ?_;have e2:r.ct.isEmpty=false:=by refine eL l ?_;rfl
   refine eL e2 (eL Bool.cond_false ?_);rcases eq_nil_or_concat D with rfl|⟨U,y,rfl⟩
   .cases q;have t:=qR (rr:=rr) C (fun _=>rfl) fun α v a=>by
     cases bI.mp a;exact Hl G s p hb h ne
    exact⟨_,t,⟨⟨_,pN m,.cons rfl .nil⟩,(by decide:1<=1000)⟩,jh⟩
   .rw [concat_eq_append] at *;refine cw (F2.snoc q) fun u x e f g=>?_
    subst e;rw [aa] at lv hD;induction y with
    |tx x0=>
     have g:=g;subst g;refine eL aX (eL dropLast_concat ?_);have t:=qR (rr:=rr) (N:=[]) (xs:=u) (ys:=[.lf (tx x0)]) (zs:=[.lf (tx (r.ct++x0))]) hd (fun _=>rfl) fun α v a=>JV G s p hb h ne (by refine eL aa ?_;exact dN 0x10F0B4B2B4BFB8C024F8B2B3BACEB9CD26B814F0B1B7BA0 tt (O x0 aX) hb) (by exact eL a (ag (Nat.le_of_add_right_le lv) (by decide)))
     exact⟨_,t,⟨⟨_,pN m,(mz f).app (.cons rfl .nil)⟩,by exact eL aa (ag hD (by decide))⟩,jh⟩
    |tag g0=>
     refine eL aX ?_;refine rm g fun j i e A J S=>?_;subst e
     have M:∃es,AQ g0 i=.dict es:=by unfold AQ;cases g0.st<;>exact⟨_,rfl⟩
     refine cN M fun es L=>?_;have z:∀E o,E≠d->B[E]?=some o->(B.set d (.list (u++[.obj j,.lf (tx r.ct)])))[E]?=some o:=fun E o n e=>by rw [bq n.symm];exact e
     refine⟨_,(MC (P:=P) (Z:=Z) (r:=r) (T:=T) (T':=eE r T) (rr:=rr) (xs:=u) (x:=.lf (tx r.ct)) hd (L▸J) A.1.symm (fun α v β ns a=>BQ G s p hb h ne β ns (by exact eL a (ag (Nat.le_of_add_right_le lv) (by decide)))) (fun _=>rfl)),⟨⟨_,getElem?_set_self m,?_⟩,by refine eL aa (eL aa ?_);have:=hD;exact cC 0x10F8BEB3B8C9C904F4B8B3B8C10 tt hD⟩,z⟩;exact eL (aw ..) ((f.mono fun _ _ k=>k.keep z).app (.cons ((dJ j i ⟨rfl,A,z j _ A.1 J,z i _ A.2 S⟩):jK d (B.set d (.list (u++[.obj j,.lf (tx r.ct)]))) (.obj j) (.tag g0)) (.cons (rfl:jK d (B.set d (.list (u++[.obj j,.lf (tx r.ct)]))) (.lf (tx r.ct)) (.tx r.ct)) .nil)))
 .have ne:r.nm.isEmpty=false:=by
   have:∀n∈gM,n.isEmpty=false:=by decide
   exact this _ h
  rcases Decidable.em (r.nm=eN) with hp|hp
  .have e1:fY D r=D++(lW r.ct []++[.tag ⟨true,r.nm⟩]):=by unfold fY;refine eL ne (eL (aC.mpr hp) ?_);rfl
   refine eL e1 ⟨_,(qR (P:=P) (Z:=Z) (r:=r) (T:=T) (T':=eE r T) (rr:=rr) C (fun _=>rfl) fun α v a=>OV G s p hb hC hp (by exact eL a (ag lv (by decide)))),⟨⟨_,pN m,(mz q).app ?_⟩,by refine eL aa (eL aa ?_);exact cC 0x10F8BEB3B8CC9014F4B8B3B814F90 tt (ph:(lW r.ct []).length<=1) hD⟩,jh⟩;have tg:=tK (x':=.list (dv++dE (fD [d] B.length) (bif !r.ct.isEmpty then[.lf (tx r.ct),.obj 2] else[.obj 2]))) (N:=[wC,Dp (tx r.nm) 3,.dict []].map (AO.ed (fD [d] B.length))) (g:=⟨true,r.nm⟩) (k:=1) m rfl rfl;cases l:r.ct with
   |nil=>rw [l] at tg;exact .cons tg .nil
   |cons c ct=>rw [l] at tg;exact .cons rfl (.cons tg .nil)
  .have e1:fY D r=D++(.tag ⟨false,r.nm⟩::(lW r.ct []++[.tag ⟨true,r.nm⟩])):=by unfold fY;refine eL ne (eL (aN.mpr hp) ?_);rfl
   refine eL e1 ⟨_,(qR (P:=P) (Z:=Z) (r:=r) (T:=T) (T':=eE r T) (rr:=rr) C (fun _=>rfl) fun α v a=>Lb G hC h hp s p hb (by exact eL a (ag lv (by decide)))),⟨⟨_,pN m,(mz q).app ?_⟩,by refine eL aa (eL ay (eL aa ?_));exact cC 0x10F8BEB3B8CC9C9014F4B8B3B814F90 tt (ph:(lW r.ct []).length<=1) hD⟩,jh⟩;have F:=tK (x':=.list (dv++dE (fD [d] B.length) (.obj 2::(bif !r.ct.isEmpty then[.lf (tx r.ct),.obj 5] else[.obj 5])))) (N:=[wC,SH (tx r.nm) 3,.list [],wC,Dp (tx r.nm) 6,.dict []].map (AO.ed (fD [d] B.length))) (g:=⟨false,r.nm⟩) (k:=1) m rfl rfl;have w:=tK (x':=.list (dv++dE (fD [d] B.length) (.obj 2::(bif !r.ct.isEmpty then[.lf (tx r.ct),.obj 5] else[.obj 5])))) (N:=[wC,SH (tx r.nm) 3,.list [],wC,Dp (tx r.nm) 6,.dict []].map (AO.ed (fD [d] B.length))) (g:=⟨true,r.nm⟩) (k:=4) m rfl rfl;cases l:r.ct with
   |nil=>rw [l] at F w;exact .cons F (.cons w .nil)
   |cons c ct=>rw [l] at F w;exact .cons F (.cons rfl (.cons w .nil))
end
abbrev dQ(d:Nat)(t:bQ)(q e:Nat)(n c w a:AV):List (Str×AV):=("due",.obj d)::("text",.lf t)::(Kg q n c w++Ds e a)
noncomputable def nP:List (Nat×Nat):=[(0,0),(0,1),(1,1),(2,0),(2,1)]
theorem Pw(P:Params)(o:Obj)(xs sl rws:List AV)(Gb:List AO)(a b c:bQ):((List.range 3).map fun e=>(R3 P [] []).ex (eA (bodyOf (KF P) 817) 3) (dh P 817 (("rows",.obj 3)::("tape",.obj 2)::(nH e a b c++lR)) ([.dy o xs,.list sl,.list [],.list rws]++Gb) 40)) =
  (List.range 3).map fun e=>some (.next,dh P 817 (("rows",.obj 3)::("tape",.obj 2)::(nH e a b c++lR++([("due",.obj (([.dy o xs,.list sl,.list [],.list rws]++Gb:List AO).length)),("text",.lf (tx []))]:List (Str×AV)))) (([.dy o xs,.list sl,.list [],.list rws]++Gb)++[.list []]) 40):=by kernel_rfl
theorem OQ(P:Params)(o:Obj)(xs sl ts:List AV)(f:Nat->AV)(Gb:List AO)(d:Nat)(t:bQ)(n c w a:AV):((List.range 13).map fun k=>nP.map fun p=>(R3 P [] []).ev (kU P).e (dh P 817 (dQ d t p.1 p.2 n c w a) ([.dy o xs,.list sl,.list ts,.list ((List.range k).map f)]++Gb) 40)) =
  (List.range 13).map fun k=>nP.map fun p=>some (.obj (([.dy o xs,.list sl,.list ts,.list ((List.range k).map f)]++Gb:List AO).length),dh P 817 (dQ d t p.1 p.2 n c w a) (([.dy o xs,.list sl,.list ts,.list ((List.range k).map f)]++Gb)++[.list ((List.range k).map f).reverse]) 40):=by kernel_rfl
def l9(d:Nat)(t:bQ)(q e:Nat)(n c w a:AV):List (Str×AV):=("due",.obj d)::("text",.lf t)::(match q with
 |0=>Ds e a++Kg 2 n c w
 |1=>Kg 1 n c w++(Ds e a++([("w",w)]:List (Str×AV)))
 |_=>Kg 2 n c w++Ds e a)
theorem Pq(P:Params)(O:List AO)(d:Nat)(t x y z:bQ)(n c w a:AV):(nP.map fun p=>(R3 P [] []).asg (kU P).t (.tup [.lf x,.lf y,.lf z]) (dh P 817 (dQ d t p.1 p.2 n c w a) O 40))=nP.map fun p=>some ((),dh P 817 (l9 d t p.1 p.2 (.lf x) (.lf y) (.lf z) a) O 40):=by kernel_rfl
theorem Me(P:Params):fE (kU P).e=true/\eA (bodyOf (KF P) 817) 4=.For (kU P).t (kU P).e (kU P).b [] (kU P).p:=⟨by kernel_rfl,by kernel_rfl⟩
theorem IL(n c w a:AV):(nP.all fun p=>(Kg 2 n c w).all fun q=>((Ds p.2 a).lookup q.1).isNone)=true:=by kernel_rfl
section
variable{P:Params}{Z:Heap×Program×World}{t:Expr}{x:AV}{σ:St}{sc:Scope}{l l':List (Str×AV)}{obj:List AO}{d q e:Nat}{n c w a:AV}{tt:bQ}
theorem zY.look(h:zY (cx P Z) t x σ ⟨sc,l,obj,d⟩)(e:∀x,l'.lookup x=l.lookup x):zY (cx P Z) t x σ ⟨sc,l',obj,d⟩:=fun F Ω v H b=>nu (h F Ω v H b) fun g _ f H1 q=>by
 exact .in f (H1.vF rfl rfl rfl (H1.rel.fr.elim fun m k=>⟨m,k.1,fun x av q=>k.2.1 x av ((e x).symm.trans q),fun x q=>k.2.2 x ((e x).symm.trans q)⟩) H1.rel.ob) q
theorem QA(G:Good (cx P Z)){b:St}(e:(R3 P [] []).asg t x σ=some ((),b)):zY (cx P Z) t x σ b:=fun F Ω v H f=>((gU G (fun _ h=>iS h) eY (jf G) 400 (Es:=[])).asg F Ω t x v f Ω .refl σ H).of e
theorem FA(hp:(q,e)∈nP)(x:Str):(dQ d tt 2 e n c w a).lookup x=(l9 d tt q e n c w a).lookup x:=by
 have k:=ak.mp (IL n c w a) _ hp;refine kP (kP ?_);rcases q with _|_|q
 .exact (dH (a:=[]) k x).symm
 .exact (dH (a:=Kg 1 n c w) (b:=[("w",w)]) (ak.mpr fun p hp=>ak.mp k p (List.mem_of_mem_drop (i:=2) (hp:p∈(Kg 2 n c w).drop 2)):(([("w",w)]:List (Str×AV)).all fun q=>((Ds e a).lookup q.1).isNone)=true) x).symm
 .rfl
theorem Sn(G:Good (cx P Z))(hp:(q,e)∈nP)(r:Row)(T:List Nat):zY (cx P Z) (kU P).t r.av (dh P 817 (dQ d (tx T) q e n c w a) obj 40) (dh P 817 (dB d r T (Ds e a)) obj 40):=
 zY.look (QA G (bz.mp (Pq P obj d (tx T) (tx r.nm) (tx r.ct) (int r.w) n c w a) _ hp)) (l':=dB d r T (Ds e a)) fun x=>FA hp x
end
def fc(R:List Row)(T:List Nat):List Nat:=R.foldl (fun T r=>eE r T) T
def tL(R:List Row)(D:List Itm):List Itm:=R.foldl fY D
structure fT(r:Row):Prop where
 nm:r.nm=[]\/r.nm∈gM
 al:∀x∈r.ct,x∈AL
 len:r.ct.length<=120
def DX(k:Nat)(D:List Itm):Prop:=∀x,Itm.tx x∈D->x.length<=k
section
theorem qU(g:fT r):(jE r T).length<=T.length+720:=ag (tP r.nm (r.w,T) r.ct) (add_le_add_left (mul_le_mul_left 6 g.len) _)
theorem qc(g:fT r)(hT:∀x∈T,x∈AL):∀x∈jE r T,x∈AL:=Je r.nm (r.w,T) hT r.ct g.al
theorem wI(g:fT r)(hT:∀x∈T,x∈AL):(eE r T).length<=T.length+745/\∀x∈eE r T,x∈AL:=by
 unfold eE;rcases g.nm with h|h
 .exact eL h (⟨ag (qU g) (add_le_add_left (by decide) _),qc g hT⟩)
 .have ne:r.nm.isEmpty=false:=by
   have:∀n∈gM,n.isEmpty=false:=by decide
   exact this _ h
  refine eL ne ?_;cases r.nm==eN with
  |true=>exact⟨ag (mR h).2 (by have:=qU (T:=T) g;exact cC 0x10FC9BEBA1CCB804FC0BDBA10 tt this),sH h (qc g hT)⟩
  |false=>exact⟨ag (mR h).2 (ag (Nat.add_le_add_right (ag (qU g) (Nat.add_le_add_right (mR h).1 720)) 12) (ah _)),sH h (qc g (Ay h hT))⟩
theorem pO(D)(r):fY D r=D\/(∃b x,D=b++[.tx x]/\fY D r=b++[.tx (r.ct++x)])\/∃l,fY D r=D++l/\l.length<=3/\∀x,Itm.tx x∈l->x=r.ct:=by
 unfold fY;cases r.nm.isEmpty with
 |true=>
  cases r.ct.isEmpty with
  |true=>exact .inl rfl
  |false=>
   refine .inr ?_;rcases eq_nil_or_concat D with rfl|⟨b,y,rfl⟩
   .exact .inr ⟨[.tx r.ct],rfl,(by decide:1<=3),fun x a=>by cases aB.mp a;rfl⟩
   .refine eL concat_eq_append (eL aX (eL dropLast_concat ?_));induction y with
    |tx x=>exact .inl (dJ b x ⟨rfl,rfl⟩)
    |tag g=>exact .inr ⟨[.tx r.ct],rfl,(by decide:1<=3),fun x a=>by cases aB.mp a;rfl⟩
 |false=>
  refine .inr (.inr ⟨_,rfl,?_,fun x a=>?_⟩)
  .have l:(lW r.ct []).length<=1:=ph;cases r.nm==eN with
   |true=>simp only [aa,ay,length_nil];exact gC 0x10F3B8CCC98084F90 tt l
   |false=>simp only [aa,ay,length_nil];exact gC 0x10F3B8CCC980C984F90 tt l
  .have d:∀x g,Itm.tx x∈[Itm.tag g]->False:=fun x g a=>by cases aB.mp a
   rcases bg.mp a with a|a
   .cases q:r.nm==eN with
    |true=>rw [q] at a;exact iS a
    |false=>rw [q] at a;exact(d x _ a).elim
   .rcases bg.mp a with a|a
    .cases q:r.ct with
     |nil=>rw [q] at a;exact iS a
     |cons c ct=>
      rw [q] at a;cases aB.mp a;rfl
    .exact (d x _ a).elim
theorem wu:(fY D r).length<=D.length+3:=by
 rcases pO D r with e|⟨a,x,rfl,e⟩|⟨l,e,h,_⟩
 .exact eL e (aK _ _)
 .exact eL e (eL aa (eL aa (aK _ _)))
 .exact eL e (eL aa (add_le_add_left h _))
theorem Md(g:fT r)(h:DX k D):DX (k+120) (fY D r):=by
 have old:∀x,Itm.tx x∈D->x.length<=k+120:=fun x a=>ag (h x a) (aK _ _)
 rcases pO D r with e|⟨c,x0,rfl,e⟩|⟨l,e,_,b⟩
 .exact eL e old
 .refine eL e ?_;intro x a;rcases bg.mp a with a|a
  .exact old x (mem_append_left _ a)
  .cases aB.mp a;have:=h x0 (mem_append_right _ (.head _));exact eL aa (eL (Nat.add_comm ..) (add_le_add this g.len))
 .refine eL e ?_;intro x a;rcases bg.mp a with a|a
  .exact old x a
  .exact eL (b x a) (ag g.len (le_add_left _ _))
theorem D9(h:e<=1):(2,e)∈nP:=by
 rcases e with _|_|e
 .decide
 .decide
 .exact absurd h (Nat.not_le.mpr (le_add_left 2 e))
theorem Vn(G:Good (cx P Z))(O:IC P Z)(L:j≠d)(F:e<=1):∀R done T D B q n c w,rev=done++R->(∀r∈R,fT r)->B[j]?=some (.list (rev.map Row.av))->nW d B D->(∀x∈T,x∈AL)->T.length+745*R.length<=8940->D.length+3*R.length<=900->DX (120*done.length) D->done.length+R.length<=12->(q,e)∈nP->
  ∃B' m u v w',(m,e)∈nP/\Dc (cx P Z) (kU P).t (kU P).b R.length (.live j done.length) (dh P 817 (dQ d (tx T) q e n c w a) B 40) .next (dh P 817 (dQ d (tx (fc R T)) m e u v w' a) B' 40)/\nW d B' (tL R D)/\∀k o,k≠d->B[k]?=some o->B'[k]?=some o:=by
 intro R;induction R with
 |nil=>
  intro done T D B q n c w l _ i H _ _ _ _ _ hp;refine Td B q n c w ⟨hp,.stop ?_ rfl rfl,H,fun _ _ _ h=>h⟩;show(listAt (dh P 817 _ B 40) j).map _=_;unfold listAt;refine eL i ?_;show some ((((rev.map Row.av))[done.length]?).map _)=_;refine eL l (eL (aF ..) (eL (aT (by exact eL (aj ..) (ah _))) ?_));rfl
 |cons r R S=>
  intro done T D B q n c w l C i H hT y hD A p hp;rw [ay,mul_succ] at y;rw [ay] at hD p;have g:=C r (.head _);have s:=wI g hT;refine cS (JI (rr:=Ds e a) G O H g.nm g.al hT (by exact ag (Nat.add_le_add_right (add_le_add_left (mul_le_mul_left 6 g.len) T.length) 30) (ag (Nat.add_le_add_right (ag (add_le_add_left (ag (by decide:6*120<=745) (le_add_left 745 (745*R.length))) T.length) y) 30) (by decide))) (by exact cC 0x10F4B8B3B804F4B8B3B8CDC913B80 tt hD) fun x h=>ag (A x (List.mem_of_getLast? h)) (by exact ag (mul_le_mul_left 120 (la p (ah 12))) (by decide))) fun E t H1 z=>(JO (S (done++[r]) (eE r T) (fY D r) E 2 (.lf (tx r.nm)) (.lf (tx r.ct)) (.lf (int r.w)) (by refine eL l (eL (aw ..) ?_);rfl) (fun x h=>C x (.tail _ h)) (z j _ L i) H1 s.2 (by have:=s.1;exact dN 0x10FCBEB2BACD29BEBA04FCBEB2BACC9BEBAD29BEBA14FC9BEBA10 tt s.1 y) (by have:=wu (D:=D) (r:=r);exact dN 0x10F4B8B3B8CD23B804F4B8B3B8CDC923B814FC3B810 tt this hD) (by refine eL aa ?_;exact Md g A) (by exact eL aa (cC 0x10FCB8C1C904FCB8CC910 tt p)) (D9 F)) fun B' m u v w' N f H' M=>?_)
  refine Td B' m u v w' ⟨N,.turn ?_ (Sn G hp r T) t (.inl rfl) (by rw [aa] at f;exact f),H',fun k o h J=>M k o h (z k o h J)⟩;show(listAt (dh P 817 _ B 40) j).map _=_;unfold listAt;refine eL i ?_;show some ((((rev.map Row.av))[done.length]?).map _)=_;refine eL l (eL aO (eL (aI (by exact eL (aj ..) (ah _))) (eL (aj ..) (eL (sub_self ..) ?_))));rfl
end
section
theorem MP(N):∀v,(jb N v).length<=v.length/\∀x∈jb N v,x∈v:=by
 intro v;induction v with
 |nil=>exact⟨ah _,fun x h=>h⟩
 |cons c v a=>
  refine eL (show jb N (c::v)=bif kQ N (c::v) then[] else c::jb N v from rfl) ?_;cases kQ N (c::v) with
  |true=>exact⟨zero_le _,fun x h=>iS h⟩
  |false=>exact⟨succ_le_succ a.1,fun x h=>(aU.mp h).elim (fun z=>z▸.head _) fun z=>.tail _ (a.2 x z)⟩
theorem Mt:∀r<7,lq r=[]\/lq r∈gM:=by decide
theorem pT(n)(h:ts.length<=12):fT (rowOf n ts)/\∀x∈(rowOf n ts).ct,x∈A2/\x≠13:=by
 have l:=wQ (n:=n) h;have m:=vW (n:=n) (ts:=ts);have k:=MP (lq (n%7)) (oE n ts);have q:(rowOf n ts).ct.length<=120/\∀x∈(rowOf n ts).ct,x∈A2/\x≠13:=by
  show(bif CX (n%7) then oE n ts else _).length<=120/\∀x∈(bif CX (n%7) then oE n ts else jb (lq (n%7)) (oE n ts)),_;cases CX (n%7) with
  |true=>exact⟨l,m⟩
  |false=>exact⟨ag k.1 l,fun x a=>m x (k.2 x a)⟩
 exact⟨⟨Mt _ (mod_lt _ (by decide)),fun x a=>(lE x (q.2 x a).1).1,q.1⟩,q.2⟩
theorem sE:∀(f:Nat) ts,ts.length<=12->(∀r∈fh f ts,fT r/\∀x∈r.ct,x∈A2/\x≠13)/\(fh f ts).length<=f:=by
 intro f;induction f with
 |zero=>exact fun ts _=>⟨fun r h=>(iS h),ah _⟩
 |succ f a=>
  intro ts h;rcases ts with _|⟨n,ts⟩
  .exact ⟨fun r h=>(iS h),zero_le _⟩
  .have l:=ag (aE _) h;have k:=a (ts.drop (pC (n%7) (gJ n))) (eL bw (ag (sub_le _ _) l));exact⟨fun r hr=>(aU.mp hr).elim (fun z=>z▸pT n l) (k.1 r),succ_le_succ k.2⟩
theorem Ek{xs:List AV}{x0:AV}:(List.range xs.length).map (fun i=>(xs[i]?).getD x0)=xs:=by
 refine ext_getElem? fun i=>(eL aH ?_)
 rcases aV i xs.length with h|h
 .refine eL (getElem?_range h) ?_;show some ((xs[i]?).getD x0)=_;refine eL (ao h) ?_;rfl
 .refine eL (aT (eL length_range h)) (eL (aT h) ?_);rfl
def dU(ns:List Int):List Row:=(fh 12 (eJ ns)).reverse
theorem jC:(∀r∈dU ns,fT r/\∀x∈r.ct,x∈A2/\x≠13)/\(dU ns).length<=12:=by
 have k:=sE 12 (eJ ns) (eL jg (bO _ _));exact⟨fun r hr=>k.1 r (List.mem_reverse.mp hr),by exact eL length_reverse k.2⟩
noncomputable abbrev XX:List (Str×AV):=[("rows",.obj 3),("tape",.obj 2)]
abbrev d4(d:Nat):List (Str×AV):=[("due",.obj d),("text",.lf (tx []))]
noncomputable abbrev C3(b c:bQ):List (Str×AV):=[("name",.lf b),("content",.lf c)]
noncomputable abbrev nN(a:bQ):List (Str×AV):=[("n",.lf a)]
theorem IX(d)(g:e<3)(x):(dQ d (tx []) (bif e==2 then 1 else 0) (bif e==0 then 0 else 1) (.lf b) (.lf c) (.lf .none) (.lf a)).lookup x=(XX++(nH e a b c++lR++d4 d)).lookup x:=by
 have f:=(dH (a:=[]) (b:=d4 d) (c:=XX++(nH e a b c++lR)) (by revert e;apply HZ<;>kernel_rfl) x).symm;refine Eq.trans (kP (kP ?_)) f;clear f;revert e;apply HZ
 .rfl
 .rfl
 .exact Eq.trans (dH (a:=[]) (b:=C3 b c) (by kernel_rfl) x).symm (dH (a:=XX++nN a) (c:=lR) (by kernel_rfl) x)
end
theorem FR(P:Params):(bodyOf (KF P) 817).take 5=(bodyOf (KF P) 817).take 2++.While (DZ P).t (DZ P).b [] (DZ P).p::([eA (bodyOf (KF P) 817) 3]++[.For (kU P).t (kU P).e (kU P).b [] (kU P).p]):=by kernel_rfl
section
variable{C:Ctx}{a b:List Stmt}{σ fi τ:St}{fl:Fl}{P:Params}{Z:Heap×Program×World}{o:Obj}{ns:List Int}{dm:List AO}
theorem dz.app(h:dz C a σ .next fi)(t:dz C b fi fl τ):dz C (a++b) σ fl τ:=fun F Ω H=>by
 refine eL (nG ..) ?_;exact ai (nu (h F Ω H) fun d f c H1 q=>by
  refine q.jk ?_;exact wp_mono (t F d H1) fun _ _ p=>p.from c)
theorem nA(B:List AO)(x:AO):(B++[x])[B.length]?=some x:=by refine eL (aI (ah _)) (eL (sub_self ..) ?_);rfl
theorem ic{B N:List AO}{k:Nat}{x:AO}(h:B[k]?=some x):(B++N)[k]?=some x:=(aJ (au.mp h).1).trans h
theorem Yd{e:Nat}(c:e<3):((bif e==2 then 1 else 0),(bif e==0 then 0 else 1))∈nP:=by
 revert e;apply HZ<;>decide
theorem XW{e:Nat}:(bif e==0 then 0 else 1)<=1:=by cases e==0<;>decide
noncomputable abbrev Jf(o:Obj)(xs sl rws:List AV)(Gb:List AO):List AO:=[.dy o xs,.list sl,.list [],.list rws]++Gb
theorem Rq{o:Obj}{xs sl rws:List AV}{Gb:List AO}{d:Nat}{t:bQ}{n c w a:AV}{p:Nat×Nat}{f:Nat->AV}{k:Nat}(h:(List.range k).map f=rws)(g:k<13)(hp:p∈nP):
  (R3 P [] []).ev (kU P).e (dh P 817 (dQ d t p.1 p.2 n c w a) (Jf o xs sl rws Gb) 40)=some (.obj (Jf o xs sl rws Gb).length,dh P 817 (dQ d t p.1 p.2 n c w a) (Jf o xs sl rws Gb++[.list rws.reverse]) 40):=by
 subst h;exact bz.mp (bz.mp (OQ P o xs sl [] f Gb d t n c w a) k (bJ.mpr g)) p hp
theorem Sb{rws xs sl:List AV}{Gb:List AO}{a b c:bQ}{e:Nat}(G:Good (cx P Z))(d:e<3):dz (cx P Z) [eA (bodyOf (KF P) 817) 3] (WY P o xs sl e a b c [] rws Gb) .next (dh P 817 (dQ (Jf o xs sl rws Gb).length (tx []) (bif e==2 then 1 else 0) (bif e==0 then 0 else 1) (.lf b) (.lf c) (.lf .none) (.lf a)) (Jf o xs sl rws Gb++[.list []]) 40):=
 dz.look (dz.cons (Rj G (bz.mp (Pw P o xs sl rws Gb a b c) e (bJ.mpr d))) .nil) fun x=>IX _ d x
theorem two_T(G:Good (cx P Z))(J:IC P Z)(y:ns.length<64):∃B d q e n c w a,((q,e)∈nP/\nW d B (tL (dU ns) [])/\B[0]?=some (.dy o (cQ ns)))/\
  dz (cx P Z) ((bodyOf (KF P) 817).take 5) (dh P 817 [("script",.obj 0)] [.dy o (cQ ns)] 40) .next (dh P 817 (dQ d (tx (fc (dU ns) [])) q e n c w a) B 40):=by
 have p:(eJ ns).length<=12:=by exact eL jg (bO _ _)
 refine Rv (QD (P:=P) (o:=o) (xs:=cQ ns) (sl:=cQ (ns.take 12)) G 12 (eJ ns) [] [] 0 .none .none .none p (ah _) (by decide) rfl rfl rfl (by decide)) fun e a b c Gb s m=>?_;have k:=s.1
 clear s;rw [nil_append] at m;have g:=jC (ns:=ns);have hp:=Yd k;have u:=Sb (o:=o) (xs:=cQ ns) (sl:=cQ (ns.take 12)) (rws:=(fh 12 (eJ ns)).map Row.av) (Gb:=Gb) (a:=a) (b:=b) (c:=c) G k;have i:=Rq (P:=P) (o:=o) (xs:=cQ ns) (sl:=cQ (ns.take 12)) (Gb:=Gb++[.list []]) (d:=(Jf o (cQ ns) (cQ (ns.take 12)) ((fh 12 (eJ ns)).map Row.av) Gb).length) (t:=tx []) (n:=.lf b) (c:=.lf c) (w:=.lf .none) (a:=.lf a) (Ek (xs:=(fh 12 (eJ ns)).map Row.av) (x0:=.lf .none)) (by exact eL (aj ..) (Nat.lt_succ_of_le ((sE 12 _ p).2:(fh 12 (eJ ns)).length<=12)):((fh 12 (eJ ns)).map Row.av).length<13) hp;rw [<-List.map_reverse] at i;have A:Jf o (cQ ns) (cQ (ns.take 12)) ((fh 12 (eJ ns)).map Row.av) (Gb++[.list []])=Jf o (cQ ns) (cQ (ns.take 12)) ((fh 12 (eJ ns)).map Row.av) Gb++[.list []]:=(aw _ _ _).symm;rw [A] at i;generalize l:Jf o (cQ ns) (cQ (ns.take 12)) ((fh 12 (eJ ns)).map Row.av) Gb=f at u i;have v:f[0]?=some (.dy o (cQ ns)):=by refine eR l ?_;rfl
 refine JO (Vn (j:=(f++[AO.list []]).length) (d:=f.length) (a:=.lf a) (rev:=dU ns) G J (by exact eL aa (succ_ne_self _):(f++[AO.list []]).length≠f.length) XW (dU ns) [] [] [] (f++[.list []]++[.list ((fh 12 (eJ ns)).reverse.map Row.av)]) (bif e==2 then 1 else 0) (.lf b) (.lf c) (.lf .none) rfl (fun r hr=>(g.1 r hr).1) (nA _ _) ⟨⟨[],ic (nA f _),.nil⟩,zero_le _⟩ (fun x h=>nomatch h) (ag (Nat.le_of_eq (Nat.zero_add _)) (mul_le_mul_left 745 g.2)) (by have:=g.2;show 0+3*(dU ns).length<=900;exact gC 0x10F4B8B3B8CD03B88CFCB80 tt g.2) (fun x h=>nomatch h) (by have:=g.2;show 0+(dU ns).length<=12;exact gC 0x10FCB8C084FCB80 tt g.2) hp) fun B' N E F w' H M H' D=>?_;have L:0≠f.length:=fun z=>by
  have:=(au.mp v).1;rw [<-z] at this;exact a7 this
 refine SY B' f.length N _ E F (dJ w' (.lf a) ⟨⟨H,H',D 0 _ L (ic (ic v))⟩,?_⟩);have it:yK (cx P Z) (kU P).e (dh P 817 (dQ f.length (tx []) (bif e==2 then 1 else 0) (bif e==0 then 0 else 1) (.lf b) (.lf c) (.lf .none) (.lf a)) (f++[.list []]) 40) (.live (f++[AO.list []]).length 0) (dh P 817 (dQ f.length (tx []) (bif e==2 then 1 else 0) (bif e==0 then 0 else 1) (.lf b) (.lf c) (.lf .none) (.lf a)) (f++[.list []]++[.list ((fh 12 (eJ ns)).reverse.map Row.av)]) 40):=yK.of G (xt G i) (by
  show(listAt (dh P 817 _ (f++[.list []]++[.list ((fh 12 (eJ ns)).reverse.map Row.av)]) 40) (f++[AO.list []]).length).map _=_;unfold listAt;refine eL (nA ..) ?_;rfl)
 exact eL (FR ..) (dz.app (PZ (o:=o) G y) (dz.cons (lA.while m) (dz.app (l▸u) (dz.cons (lA.yc (Me P).1 it M) .nil))))
end
abbrev rQ(d q e:Nat)(n c w a:AV):List (Str×AV):=("due",.obj d)::(Kg q n c w++Ds e a)
noncomputable abbrev tN(t:bQ):List (Str×AV):=[("text",.lf t)]
noncomputable abbrev Pu(g m:Nat):List (Str×AV):=[("got",.obj g),("reader",.obj m)]
noncomputable def YY(t:bQ):Sx:=⟨t,.int 0,.str ⟨#[]⟩,.int 0,.int 0,.int 0,.int 0,.none⟩
noncomputable def YA(b:Nat):AO:=.inst 755 [("stream",.obj (b+1)),("parser",.lf .none),("escapeFlag",.lf (.bool false)),("lastFourChars",.obj (b+5)),("state",.cv 297 (.obj b)),("escape",.lf (.bool false)),("currentToken",.lf .none)]
def Bj(b:Nat)(t:bQ):List AO:=YA b::cz (b+1) (YY t)++[.list []]
theorem Pt(P)(α):(nP.map fun p=>(R3 P [] []).fL (((bodyOf (KF P) 817).drop 5).take 2) (dh P 817 (tN (.sym 0)++cm α (rQ 0 p.1 p.2 (.lf .none) (.lf .none) (.lf .none) (.lf .none))) [] 40)) =
  nP.map fun p=>some (.next,dh P 817 (tN (.sym 0)++(cm α (rQ 0 p.1 p.2 (.lf .none) (.lf .none) (.lf .none) (.lf .none))++Pu 0 1)) (.list []::Bj 1 (.sym 0)) 40):=by kernel_rfl
theorem wW(d q e)(n c w a)(α)(hp:(q,e)∈nP):cm α (rQ d q e n c w a)=cm α (rQ 0 q e (.lf .none) (.lf .none) (.lf .none) (.lf .none)):=by
 exact(bA.mpr ⟨rfl,bA.mpr ⟨rfl,bA.mpr ⟨rfl,bA.mpr ⟨rfl,bA.mpr ⟨rfl,fun _ h=>iS h⟩⟩⟩⟩⟩:∀p∈nP,cm α (rQ d p.1 p.2 n c w a)=cm α (rQ 0 p.1 p.2 (.lf .none) (.lf .none) (.lf .none) (.lf .none))) (q,e) hp
theorem AJ(α)(g m):(nP.all fun p=>(Pu g m).all fun x=>((cm α (rQ 0 p.1 p.2 (.lf .none) (.lf .none) (.lf .none) (.lf .none))).lookup x.1).isNone)=true:=by kernel_rfl
theorem Lk(hp:(q,e)∈nP):((Pu g m).all fun x=>((rQ d q e n c w a).lookup x.1).isNone)=true:=by
 have k:=ak.mp (AJ (fun _=>.none) g m) (q,e) hp;rw [<-wW d q e n c w a (fun _=>.none) hp] at k;refine ak.mpr fun x b=>?_
 have z:=ak.mp k x b;rw [jM] at z;cases h:(rQ d q e n c w a).lookup x.1 with
 |none=>rfl
 |some v=>rw [h] at z;exact(aA z).elim
section
theorem DH{B R:List (Str×AV)}(h:(B.all fun p=>(A.lookup p.1).isNone)=true)(x):((A++B)++R).lookup x=((B++A)++R).lookup x:=by
 exact eL cy (eL (cy (l:=B++A)) (az (fun o=>match o with|some a=>some a|none=>R.lookup x) (dH (a:=[]) h x)))
theorem Af(x:Str):(dQ d (tx raw) q e n c w a).lookup x=(tN (tx raw)++rQ d q e n c w a).lookup x:=DH (A:=[("due",.obj d)]) (B:=tN (tx raw)) (R:=Kg q n c w++Ds e a) (by kernel_rfl) x
theorem PR(G:Good (cx P Z))(hp:(q,e)∈nP):dz (cx P Z) (((bodyOf (KF P) 817).drop 5).take 2) (dh P 817 (dQ d (tx raw) q e n c w a) B 40) .next
  (dh P 817 (fS (dQ d (tx raw) q e n c w a) B.length (bZ B [])) (cV B [] []++eI (bZ B []) (Bj 0 (tx raw))) 40):=by
 have t:=dz.Mk (C:=cx P Z) (sc:=mH (KF P) 817) (dp:=40) (b:=((bodyOf (KF P) 817).drop 5).take 2) (B':=B) (N:=.list []::Bj 1 (tx raw)) (nd:=tN (tx raw)) (rh:=tN (tx raw)++Pu 0 1) (loc:=dQ d (tx raw) q e n c w a) (eH:=fS (dQ d (tx raw) q e n c w a) B.length (bZ B [])) (fun i j h=>cX (getElem?_nil.symm.trans h))
  (fun F Ω H=>(dJ ([]) ([]) ⟨rfl,rfl,fun i j o h=>cX (getElem?_nil.symm.trans h),fun i j o h=>cX (getElem?_nil.symm.trans h),fun α=>?_⟩)) Af (fun x=>?_) (kB (by kernel_rfl)) (fun j h=>iS h) rfl (fun j _=>rfl) (.inl rfl)
 .have e1:B++(AO.list []::Bj 1 (tx raw)).map (AO.ed (fD [] B.length))=cV B [] []++eI (bZ B []) (Bj 0 (tx raw)):=by
   refine eL (aw ..) ?_;rfl
  exact e1▸t
 .have z:=dY G (gK (L:=[tx raw]) rfl bR bU) (bz.mp (Pt P α) _ hp);refine eL (wW d q e n c w a α hp) ?_;have f:St.sub (cT [tx raw]) (dh P 817 (tN (.sym 0)++cm α (rQ 0 q e (.lf .none) (.lf .none) (.lf .none) (.lf .none))) [] 40)=dh P 817 (tN (tx raw)++cm α (rQ 0 q e (.lf .none) (.lf .none) (.lf .none) (.lf .none))) [] 40:=by
   show(⟨_,("text",_)::cY _ (cm α _),_,_⟩:St)=_;refine eL dC ?_;rfl
  have g:St.sub (cT [tx raw]) (dh P 817 (tN (.sym 0)++(cm α (rQ 0 q e (.lf .none) (.lf .none) (.lf .none) (.lf .none))++Pu 0 1)) (.list []::Bj 1 (.sym 0)) 40)=dh P 817 (tN (tx raw)++(cm α (rQ 0 q e (.lf .none) (.lf .none) (.lf .none) (.lf .none))++Pu 0 1)) (.list []::Bj 1 (tx raw)) 40:=by
   show(⟨_,("text",_)::(cm α _++Pu 0 1).map _,_,_⟩:St)=_;refine eL aO ?_;show(⟨_,("text",_)::(cY _ (cm α _)++_),_,_⟩:St)=_;refine eL dC ?_;rfl
  have z:=z;rw [f,g] at z;exact dz.look z fun x=>(eL (aw ..) ((dH (ak.mp (AJ α 0 1) (q,e) hp) x).symm))
 .exact eL (aw (tN (tx raw)) ..) (eR (dH (Lk hp) x) (eR (aw ..) (eL cy (eL (cy) (eL (Af ..) rfl)))))
end
section
variable{C:Ctx}{x:Stmt}{sc:Scope}{gl nV:List (Str×AV)}{O O' F:List AO}{d:Nat}{P:Params}{Z:Heap×Program×World}
theorem lA.sh(h:lA C x ⟨sc,gl,O,d⟩ .next ⟨sc,nV,O',d⟩):lA C x ⟨sc,cE (iL F.length) gl,F++eI F.length O,d⟩ .next ⟨sc,cE (iL F.length) nV,F++eI F.length O',d⟩:=fun Fm Ω H=>by
 exact wp_mono (h Fm (Ω.small (iL F.length) O.length) (H.shrink sY rfl rfl)) fun _ _ p=>cW.sh H p fun _ _ _ q=>by refine q.jk ?_;exact .next
theorem Mi(P:Params):(R3 P [] []).ex (X2 P).US ((X2 P).sg jw (Bj 0 (.sym 0)))=some (.next,(X2 P).sg jw (cO 297 .no none (YY (.sym 0)))):=by kernel_rfl
theorem Vs(G:Good (cx P Z))(raw:List Nat):lA (cx P Z) (X2 P).US ((X2 P).sg (cE (iL F.length) jw) (F++eI F.length (Bj 0 (tx raw)))) .next ((X2 P).sg (cE (iL F.length) jw) (F++eI F.length (cO 297 .no none (YY (tx raw))))):=
 lA.sh (Dt G (gK (L:=[tx raw]) rfl bR bU) (Mi P))
theorem Jh{a:AO}{O:List AO}:(F++eI F.length (a::O))[F.length]?=some (a.ed (iL F.length)):=by
 refine eL (aI (ah _)) (eL (sub_self ..) ?_);rfl
theorem Ya(P:Params)(t:bQ)(loc:List (Str×AV)):∃q,GenAt (cx P Z) (X2 P) loc (F++eI F.length (Bj 0 t)) F.length (cE (iL F.length) jw) q 261:=by
 refine cN (Option.isSome_iff_exists.mp (show(fnAt (KF P) 261).isSome=true by kernel_rfl)) fun q a=>(bY (HJ a) fun g c=>?_)
 have hb:dg (fnAt (KF P) 261) (fun q=>(defsOf (KF P) q.1.defaults).bind fun b=>(mw (q.1.params.args.map (·.arg)) b [AV.obj F.length] []).bind fun bs=>some bs.reverse) none=some ([("self",AV.obj F.length)]:List (Str×AV)):=by kernel_rfl
 rw [a] at hb;refine bW (aM.mp hb) fun b hd hb=>(bW (aM.mp hb) fun bs f hb=>⟨q,⟨⟨(755,none),?_,by kernel_rfl⟩,by kernel_rfl,a,?_,?_,c,⟨b,bs,hd,f,bB hb⟩,by kernel_rfl⟩⟩)
 .have e:lH ((X2 P).su loc (F++eI F.length (Bj 0 t))) F.length=some (755,cE (iL F.length) [("stream",.obj 1),("parser",.lf .none),("escapeFlag",.lf (.bool false)),("lastFourChars",.obj 5),("state",.cv 297 (.obj 0)),("escape",.lf (.bool false)),("currentToken",.lf .none)]):=by
   unfold lH;refine eL (show((X2 P).su loc (F++eI F.length (Bj 0 t))).obj[F.length]?=_ from Jh) ?_;rfl
  show((lH _ F.length).bind _)=_;refine eL e ?_;kernel_rfl
 .refine eL c ?_;kernel_rfl
 .refine eL g ?_;kernel_rfl
end
theorem gZ:dD a b n []=[]:=by
 rcases n with _|n<;>rfl
theorem IJ{d:List Nat}{n m:Nat}:d.length+1<n->d.length<m->dD [13,10] [10] n (d++[13])=dD [13,10] [10] m d++[13]:=by
 induction n generalizing d m with
 |zero=>exact fun h=>absurd h (not_lt_zero _)
 |succ n b=>
  intro h a;rcases m with _|m
  .exact absurd a (not_lt_zero _)
  rcases d with _|⟨c,r⟩
  .refine eL (eV ..) (eL (if_neg (by decide)) (eL gZ (eL gZ ?_)));rfl
  .have h:r.length+1+1<n+1:=h;have a:r.length+1<m+1:=a;have e:([13,10]:List Nat).isPrefixOf (c::(r++[13]))=([13,10]:List Nat).isPrefixOf (c::r):=by
    clear a h b;rcases r with _|⟨e,r⟩<;>rfl
   refine eL cons_append (eL (eV ..) (eL (eV ..) (eL e ?_)));by_cases q:([13,10]:List Nat).isPrefixOf (c::r)=true
   .refine eL (if_pos q) (eL (if_pos q) ?_);rcases r with _|⟨e,r⟩
    .exact absurd q (by show ¬((13==c)&&false)=true;exact eL (Bool.and_false ..) aA)
    .refine eL (b (m:=m) (cC 0x11F1C905FC91C9C9C90 tt (h:r.length+1+1+1<n+1)) (cC 0x11F105FC91C9C90 tt (a:r.length+1+1<m+1))) ?_;rfl
   .refine eL (if_neg q) (eL (if_neg q) (eL (b (m:=m) (cC 0x11F1C905FC91C9C90 tt h) (cC 0x11F105FC91C90 tt a)) ?_));rfl
theorem Cv:cf (d++[13])=cf d++[10]:=by
 have e:dP [13,10] [10] (d++[13])=dP [13,10] [10] d++[13]:=
  IJ (by exact eL aa (bF _)) (bF _)
 unfold cf;refine eL e (eL hH (eL hH (eL List.flatMap_append ?_)));rfl
theorem EZ(raw):At raw (cf raw) 0 (sx raw 0 [] 0 [] .none):=by
 by_cases h:raw=[]
 .subst h;exact SY ([]) ([]) 0 0 .none ([]) ⟨rfl,.nil,rfl,rfl,ah _⟩
 by_cases a:raw.length=1\/raw.getLast?≠some 13
 .exact SY ([]) ([]) 0 0 .none ([cf raw]) ⟨rfl,.all h a,eL (aF ..) rfl,rfl,ah _⟩
 .refine cN (List.getLast?_eq_some_iff.mp (Classical.byContradiction fun z=>a (.inr z):raw.getLast?=some 13)) fun d b=>?_;subst b
  have hd:d≠[]:=fun z=>a (.inl (by refine eL z ?_;rfl))
  exact SY ([]) ([]) 0 0 .none ([cf d,[10]]) ⟨rfl,.some d rfl hd,Cv,rfl,ah _⟩
section
theorem zV(h:∀(i:Nat) (x:AV),xs[i]?=some x->x.gk k=true):gY k xs=true:=by
 exact eL (eC ..) (ak.mpr fun x a=>(cN (List.mem_iff_getElem?.mp a) fun i e=>(h i x e)))
theorem VR.lim(r:VR C Ω x v):x.gk Ω.n=true:=by
 induction r with
 |tup xs c a e l s q b=>
  exact zV fun i x e=>(b i x _ e (ao (l▸((au.mp e).1))))
 |cv f a x v e q b=>exact b
 |obj i hi=>exact bo hi
 |_=>rfl
theorem de.lim(r:de C Ω xs a):gY Ω.n xs=true:=zV fun i x e=>by
 exact(r.at_ i x _ e (ao (r.len▸((au.mp e).1)))).lim
theorem uO(h:gY k (a++b)=true):gY k a=true/\gY k b=true:=by
 exact eL (eC ..) (eL (eC ..) (ab.mp (eR all_append (eR (eC ..) h))))
theorem F2.lim(h:F2 Q es bs)(q:∀p b,Q p b->p.2.gk k=true):mO k es=true:=by
 induction h with
 |nil=>rfl
 |cons h _ a=>exact ab.mpr ⟨q _ _ h,a⟩
theorem gz.lim(r:gz C Ω a d o):o.gk Ω.n=true:=by
 rcases o with xs|es|⟨c,as⟩|⟨o,xs⟩|⟨xs,k,zs⟩
 .obtain ⟨f,k,e,q,l⟩:=r;exact q.lim
 .obtain ⟨i,e,q,nd⟩:=r;exact q.lim fun p b z=>z.2.lim
 .obtain ⟨ne,e,h,k,g,q,l⟩:=r;exact q.lim fun p b z=>z.2.lim
 .obtain ⟨e,f,k,q,l⟩:=r;exact q.lim
 .refine cw r fun f n e q l=>?_;have z:=uO q.lim
  exact ab.mpr ⟨z.1,(uO z.2).2⟩
theorem Rel.lim(r:Rel C L Ω σ):∀o∈σ.obj,o.gk σ.obj.length=true:=fun o ho=>by
 exact cN (List.mem_iff_getElem?.mp ho) fun i e=>(eL r.n ((r.ob i o e).lim))
theorem Rel.Ys(r:Rel C L Ω σ){n:Str}(e:σ.loc.lookup n=some x):x.gk σ.obj.length=true:=by
 exact cS r.fr fun m _ q _=>(bW (q n x e) fun v _ z=>(eL r.n z.lim))
end
theorem MF(n):OW n=(List.range n).reverse:=(krv_sliceRange n).trans (krv_range n)
theorem Mf{α:Type}(xs:List α):oK xs=xs.reverse:=by
 unfold oK;refine eL (MF ..) (eL List.filterMap_reverse (az List.reverse (Eq.trans ?_ (krv_all xs.toArray))));exact eL size_toArray (az (fun f=>filterMap f _) (funext fun i=>bD.symm))
section
variable{C:Ctx}{F:Fm}{Ω dX:Om}{sc:Scope}{l l':List (Str×AV)}{obj:List AO}{d:Nat}{x:Expr}{a:AV}{P:Params}
theorem nh.look{L:Nat}(h:nh C Ω L l)(e:∀x,l'.lookup x=l.lookup x):nh C Ω L l':=h.elim fun m k=>⟨m,k.1,fun x av q=>k.2.1 x av ((e x).symm.trans q),fun x q=>k.2.2 x ((e x).symm.trans q)⟩
theorem iD.look(h:iD C x ⟨sc,l,obj,d⟩ a ⟨sc,l,obj,d⟩)(e:∀x,l'.lookup x=l.lookup x):iD C x ⟨sc,l',obj,d⟩ a ⟨sc,l',obj,d⟩:=fun F Ω H=>
 nu (h F Ω (H.vF rfl rfl rfl (H.rel.fr.look fun x=>(e x).symm) H.rel.ob)) fun c _ b H1 q=>by
  exact .in b (H1.vF rfl rfl rfl (H1.rel.fr.look e) H1.rel.ob) q
abbrev Pp(P:Params):=MY (eA (bodyOf (KF P) 817) 7)
theorem Sl(P:Params)(m:Nat)(l:List (Str×AV))(obj:List AO):(R3 P [] []).ev (Pp P).e ((X2 P).su (("reader",.obj m)::l) obj)=some (.obj m,(X2 P).su (("reader",.obj m)::l) obj):=by kernel_rfl
theorem Pz(P:Params):fE (Pp P).e=true:=by kernel_rfl
theorem Bn(P:Params):bodyOf (KF P) 817=(bodyOf (KF P) 817).take 5++(((bodyOf (KF P) 817).drop 5).take 2++.For (.Name (X2 P).y (X2 P).py) (Pp P).e (X2 P).body [] (Pp P).p::(bodyOf (KF P) 817).drop 8):=by kernel_rfl
variable(W:Wk P)
theorem Vy{k:Nat}{st:Addr}{S:Sx}{c:iW}{t:Option bQ}{bT:List Gi}{tg:List Tg}(h:W.lb k bT tg (cO st c t S)):LH (cx P W.Z) (X2 P) W.Fin k true (fS W.pre W.D.length (bZ W.D tg)) (cE (iL (cV W.D bT tg).length) jw) (cV W.D bT tg++eI (cV W.D bT tg).length (cO st c t S)):=
 .gc (GV:=false) id (fun z=>jD z) (fun x _=>by exact eL (mC ..) rfl) ⟨fun _ _=>rfl,by refine eL aa (eL cB ?_);have:=W.hb;exact succ_pos _⟩ ⟨(mC _).symm,fun i o e=>by exact eL (AO.nc ..) e,fun _ _ _ _ z=>z,fun _ h=>h⟩ h
theorem RY(hT:W.T=cf W.raw)(go:Go W 297 .no none [] [] 0)(j:Mine.W F.L dX Ω)(n0:dX.n<=(X2 P).nb)(H:Hr (cx P W.Z) F Ω ((X2 P).su (fS W.pre W.D.length (bZ W.D [])) (cV W.D [] []++eI (bZ W.D []) (Bj 0 (tx W.raw))))):
  wpAny (cx P W.Z).M F.A (exec (.For (.Name (X2 P).y (X2 P).py) (Pp P).e (X2 P).body [] (Pp P).p) F.env) (fun fl s'=>fl=.next/\∃cb eH dm,W.Fin eH dm/\Mine.W F.L dX cb/\Hr (cx P W.Z) F cb ((X2 P).su eH dm)/\cb.s=s') no Ω.s:=by
 refine cN (Ya (Z:=W.Z) (F:=cV W.D [] []) P (tx W.raw) (fS W.pre W.D.length (bZ W.D []))) fun q f=>(cN (go (sx W.raw 0 [] 0 [] .none) (hT▸EZ W.raw)) fun k h=>?_)
 have hb:=Vy W h;have g:=Vs (F:=cV W.D [] []) W.G W.raw;have i:iD (cx P W.Z) (Pp P).e ((X2 P).su (fS W.pre W.D.length (bZ W.D [])) (cV W.D [] []++eI (bZ W.D []) (Bj 0 (tx W.raw)))) (.obj (bZ W.D [])) _:=iD.look (xt W.G (Sl P (bZ W.D []) (W.pre++([("got",.obj W.D.length)]:List (Str×AV))) _)) fun x=>by
  have k:=dH (a:=[]) (b:=([("reader",.obj (bZ W.D []))]:List (Str×AV))) (c:=W.pre++([("got",.obj W.D.length)]:List (Str×AV))) (by
   show((((W.pre++([("got",.obj W.D.length)]:List (Str×AV))).lookup ("reader" : Str)).isNone)&&true)=true;refine eL cy (eL W.hp.2.2 ?_);rfl) x
  refine Eq.trans ?_ k;refine eL (nil_append ..) (eL (aw ..) ?_);rfl
 rw [show(cV W.D [] []).length=bZ W.D [] from cB] at f hb g;exact Jb (S:=X2 P) W.G f j n0 H (Pz P) i g hb
end
noncomputable def Vi:List Str->Bool
 |[]=>true
 |x::r=>!(r.contains x)&&Vi r
theorem Jx{l:List (Str×AV)}(h:Vi (l.map (·.1))=true)(hp:p∈l):l.lookup p.1=some p.2:=by
 induction l with
 |nil=>exact iS hp
 |cons y l a=>
  have h:=ab.mp h;rcases aU.mp hp with z|z
  .clear h a hp;subst z;exact eL aY (eL (bk ..) rfl)
  .have ne:(p.1==y.1)=false:=by
    clear a hp;rcases q:p.1==y.1 with _|_
    .rfl
    .rw [(contains_iff_mem.mpr ((aC.mp q)▸List.mem_map_of_mem z):(l.map (·.1)).contains y.1=true)] at h;exact absurd h.1 aA
   exact eL aY (eL ne (a h.2 z))
section
theorem Rel.Yp(r:Rel C L Ω σ)(h:Vi (l.map (·.1))=true)(a:∀x v,l.lookup x=some v->σ.loc.lookup x=some v):mO σ.obj.length l=true:=
 ak.mpr fun p hp=>r.Ys (a _ _ (Jx h hp))
theorem Al{Q:Nat->Nat->Prop}(h:Q 0 0/\Q 0 1/\Q 1 1/\Q 2 0/\Q 2 1)(hp:(q,e)∈nP):Q q e:=by
 exact(bA.mpr ⟨h.1,bA.mpr ⟨h.2.1,bA.mpr ⟨h.2.2.1,bA.mpr ⟨h.2.2.2.1,bA.mpr ⟨h.2.2.2.2,fun _ h=>iS h⟩⟩⟩⟩⟩:∀p∈nP,Q p.1 p.2) (q,e) hp
theorem UZ(hp:(q,e)∈nP):Vi ((dQ d t q e n c w a).map (·.1))=true:=
 Al (Q:=fun q e=>Vi ((dQ d t q e n c w a).map (·.1))=true) ⟨by kernel_rfl,by kernel_rfl,by kernel_rfl,by kernel_rfl,by kernel_rfl⟩ hp
theorem RO(hp:(q,e)∈nP):Ph (dQ d t q e n c w a):=
 Al (Q:=fun q e=>Ph (dQ d t q e n c w a)) ⟨⟨by kernel_rfl,by kernel_rfl,by kernel_rfl⟩,⟨by kernel_rfl,by kernel_rfl,by kernel_rfl⟩,⟨by kernel_rfl,by kernel_rfl,by kernel_rfl⟩,⟨by kernel_rfl,by kernel_rfl,by kernel_rfl⟩,⟨by kernel_rfl,by kernel_rfl,by kernel_rfl⟩⟩ hp
theorem Sw(hp:(q,e)∈nP)(r:Rel C L Ω σ)(h:σ.loc=dQ d t q e n c w a):mO σ.obj.length (dQ d t q e n c w a)=true:=
 r.Yp (UZ hp) fun _ _ z=>h▸z
end
section
variable{P:Params}{Z:Heap×Program×World}{o:Obj}{ns:List Int}
def Ke(P:Params)(Z:Heap×Program×World)(o:Obj)(ns:List Int)(loc:List (Str×AV))(obj:List AO):Prop:=cG (cx P Z) ((bodyOf (KF P) 817).drop 8) ((X2 P).su loc obj) (.ret (.lf (.bool true))) [.dy o (cQ ns)]
theorem RE(G:Good (cx P Z))(C:IC P Z)(k:ns.length<64)(i:mP (fc (dU ns) []))(u:∀c∈cf (fc (dU ns) []),c∈A2)
  (l:∀(W:Wk P) (d q e:Nat) (n c w a:AV),W.Z=Z->W.raw=fc (dU ns) []->W.T=cf (fc (dU ns) [])->W.Fin=Ke P Z o ns->W.pre=dQ d (tx (fc (dU ns) [])) q e n c w a->(q,e)∈nP->nW d W.D (tL (dU ns) [])->W.D[0]?=some (.dy o (cQ ns))->Go W 297 .no none [] [] 0):
  cG (cx P Z) (bodyOf (KF P) 817) (dh P 817 [("script",.obj 0)] [.dy o (cQ ns)] 40) (.ret (.lf (.bool true))) [.dy o (cQ ns)]:=by
 refine YU (two_T (o:=o) G C k) fun B d q e n c w a b L=>(fq b fun hp r h=>?_)
 clear b;intro F Ω H;refine eL (Bn ..) (eL (nG ..) (ai (nu (L F Ω H) fun J f t H1 E=>(E.jk (eL (nG ..) (ai (nu (PR (B:=B) (d:=d) (q:=q) (e:=e) (n:=n) (c:=c) (w:=w) (a:=a) (raw:=fc (dU ns) []) G hp F J H1) fun M f v m x=>(x.jk ?_))))))))
 let W:Wk P:={ Z:=Z,Fin:=Ke P Z o ns,pre:=dQ d (tx (fc (dU ns) [])) q e n c w a,D:=B,raw:=fc (dU ns) [],T:=cf (fc (dU ns) []),G:=G,R:=i,hT:=ag vL.2 i.len,g9:=u,hD:=H1.rel.lim,hb:=(au.mp h).1,hpre:=Sw hp H1.rel rfl,hp:=RO hp }
 refine ai (wp_mono (RY W rfl (l W d q e n c w a rfl rfl rfl rfl rfl hp r h) (t.trans v) (Nat.le_of_eq H.rel.n.symm:Ω.n<=(X2 P).nb) m) fun f s' z=>(bY z fun g b=>?_));clear z;subst g;refine jQ b fun y eH dm A s j g=>?_;clear b;subst g
 exact wp_mono (A F y j) fun _ _ p=>p.imp fun _ p=>⟨⟨s.trans p.1.w,p.1.ob,p.1.old,p.1.toks,p.1.fl⟩,p.2⟩
end
section
theorem Lf(t:cG (cx P Z) b ⟨σ,[("script",.obj 0)],[.dy o (cQ ns)],40⟩ (.ret (.lf (.bool true))) [.dy o (cQ ns)])(H:Hr (cx P Z) F Ω ⟨σ,[("script",.obj 0)],[.dy o (cQ ns)],40⟩)(k:(Ω.ρ 0).2=(Ω.ρ 0).1):
  wpAny (cx P Z).M F.A (execs b F.env) (fun fl s'=>wD fl=.bool true/\gv Ω.s s'/\∀(b:Nat) o',Ω.h.get? b=some o'->b≠F.L->s'.heap.get? b=some o') no Ω.s:=by
 have g:Ω.n=1:=H.rel.n.symm;refine wp_mono (t F Ω H) fun f s' z=>?_
 obtain⟨r,p,rfl⟩:=z;have l:wD f=.bool true:=by
  cases p.fl with
  |ret a u q=>cases q with|lf _ _ q=>cases q;rfl
 refine⟨l,p.w.sm,fun b o' j m=>?_⟩;by_cases c:b=(Ω.ρ 0).1
 .have e:=(H.rel.ob 0 _ rfl).1;rw [<-c] at e;cases e.symm.trans j;have d:=(p.ob 0 _ rfl).1;rw [p.w.same 0 (g▸Nat.zero_lt_one),<-c] at d;exact d
 .refine p.w.keep b o' j m fun i hi=>?_;have hi:i<1:=g▸hi
  cases Nat.lt_one_iff.mp hi;exact⟨c,k▸c⟩
end
noncomputable def wo(h:Heap)(a:Addr):Heap:=⟨h.objs.setIfInBounds a ⟨.none,none,.freed,#[]⟩,h.life⟩
section
variable{K:Frag}
theorem Hh:(wo h a).get? a=none:=by
 unfold Heap.get?;refine eL (Array.getElem?_setIfInBounds_self) ?_;by_cases q:a<h.objs.size
 .exact eL (if_pos q) rfl
 .exact eL (if_neg q) rfl
theorem wj(ne:b≠a):(wo h a).get? b=h.get? b:=by
 unfold Heap.get?;exact eL (Array.getElem?_setIfInBounds_ne (Ne.symm ne)) rfl
theorem Ra(e:(wo h a).get? b=some o):h.get? b=some o:=by
 by_cases q:b=a
 .rw [q,Hh] at e;exact cX e
 .rw [wj q] at e;exact e
theorem MM(G:Good ⟨K,h,prog,w,θ,Φ⟩)(p:K.lookup a=none)(ho:h.get? a=some o){l:Array Value}{n:Nat}(hd:o.data=.seq l n)(i:a≠sysModules):Good ⟨K,wo h a,prog,w,θ,Φ⟩:=by
 have ns:∀ {N m},h.Ns N m->(wo h a).Ns N m:=fun {N m} q=>by
  refine xT q fun o' es d e e2 r=>(kj o' es d ⟨?_,e2,r⟩)
  rw [wj];exact e
  rintro rfl
  cases ho.symm.trans e;rw [hd] at e2;cases e2
 have f:∀b,K.lookup b≠none->b≠a:=fun b q z=>q (z▸p)
 refine⟨fun b ob e=>(wj (f b fun z=>Cm (e.symm.trans z))).trans (G.lI b ob e),?_,?_,?_,?_,fun t es e=>?_,G.facts⟩
 .obtain ⟨c,q,z⟩:=G.lim;exact⟨c,ns q,z⟩
 .obtain ⟨c,q,z⟩:=G.nb;exact⟨c,ns q,z⟩
 .obtain ⟨ob,e⟩:=G.sys;exact⟨ob,(wj (Ne.symm i)).trans e⟩
 .obtain ⟨mb,q,z⟩:=G.bn;exact⟨mb,ns q,z⟩
 .refine cN (G.tab t es e) fun k I=>?_;have g:t≠a:=f t fun z=>by
   have e:cM K t=.jR es:=e;unfold cM at e;rw [z] at e;cases e
  exact lQ I.dict fun ob j d q r=>⟨k,⟨I.sys,⟨ob,j,d,(wj g).trans q,r⟩,I.NX,I.at_⟩⟩
noncomputable def xO(v:Value):Bool:=match v with
 |.int _ _=>true
 |_=>false
def PQ(o:Obj):Bool:=(o.cls==.type "list")&&match o.data with
 |.seq xs _=>xs.toList.all xO
 |_=>false
theorem VQ(P):((KF P).all fun p=>!PQ p.2)=true:=by kernel_rfl
theorem Wo(P):((KF P).all fun p=>qx p.2)=true:=by kernel_rfl
theorem VC(P):nsIn (KF P) cStatics sharingNotToldKey=some none:=by kernel_rfl
theorem at3(P):nsIn (KF P) mainGlobals "law"=some (some (.ref 817)):=by kernel_rfl
theorem GI(b:IntsAre c ns):c.all xO=true:=by
 induction b with
 |nil=>rfl
 |cons n t _ a=>exact a
theorem Mp(b:IntsAre c ns):de C Ω (cQ ns) c:=by
 induction b with
 |nil=>exact .nil
 |cons n t _ a=>exact .cons (.lf _ _ (.int n t)) a
theorem B7(P):dg (fnAt (KF P) 817) (fun q=>(q.1.scope.isGenerator,defsOf (KF P) q.1.defaults,mw (q.1.params.args.map (·.arg)) [] [AV.obj 0] [])) (true,none,none)=(false,some [],some ([("script",.obj 0)]:List (Str×AV))):=by kernel_rfl
theorem gv.Km(a:gv s s')(h:AllBare s.gens):AllBare s'.gens:=fun y b=>by
 have:=a.bare.trans (ak.mpr fun y b=>h y (by simpa using b));exact ak.mp this y (by simpa using b)
theorem Gd{cl:Str->Option Addr}{KA:ExcName->Option Value}
  (T:Top p loose KA mg mb s.heap) (X:(KF P).In s.heap) (hi:importsNone p=true) (hg:s.gens = #[])
  (N:s.heap.IsList TE r.toArray) (C:IntsAre r ns) (hl:ns.length<=63)
  (hr:∀cls,c.raises args cls=false) (hp:c.post args (.bool true) args=true)
  (hb:∀(Z:Heap×Program×World) (o:Obj),Good (cx P Z)->cG (cx P Z) (bodyOf (KF P) 817) (dh P 817 [("script",.obj 0)] [.dy o (cQ ns)] 40) (.ret (.lf (.bool true))) [.dy o (cQ ns)]):
  wpAny (model prog w) callerA (call (.ref 817) [.ref TE]) (fun v s'=>GoodWG c cl g args s (.ok (.ret v)) s') (fun e s'=>GoodWG c cl g args s (.error e) s') s:=by
 obtain⟨o,a,B,n,hd⟩:=N;have E:TE≠sysModules:=by
  rintro rfl
  obtain⟨mm,⟨o',es,ep,U,t,_⟩,_⟩:=(T.seer hi).mods;cases a.symm.trans U;rw [hd] at t;cases t
 have hk:(KF P).lookup TE=none:=by
  cases q:(KF P).lookup TE with
  |none=>rfl
  |some ob=>
   have z:=ak.mp (VQ P) _ (lookup_mem q);rw [bB ((X _ _ q).symm.trans a)] at z;have y:PQ o=true:=by
    unfold PQ;refine eL B (eL (hd ..) ?_);show(_&&r.all xO)=true;refine eL (GI C) (eL (bk ..) ?_);rfl
   rw [y] at z;exact jD z
 have G:=MM (Js T X hi (VC P) (Wo P) fun _ h=>iS h:Good ⟨KF P,s.heap,prog,w,fun _=>.none,[]⟩) hk a hd E;have A0:∀(i:Nat) ob,([AO.dy o (cQ ns)])[i]?=some ob->gz (cx P (wo s.heap TE,prog,w)) ⟨fun _=>(TE,TE),1,s⟩ TE TE ob:=fun i ob e=>by
  induction i with
  |zero=>cases e;exact⟨a,r,⟨B,n,hd⟩,Mp C,eL (aj ..) (gC 0x10F1B0B0B0B0B0B904FFB3B80 tt hl)⟩
  |succ i=>exact cX e
 have L:Ga (cx P (wo s.heap TE,prog,w)) ⟨fun _=>(TE,TE),1,s⟩ [.dy o (cQ ns)]:=
  ⟨rfl,A0,(fun i j hi hj ne=>by lia:∀i j,i<1->j<1->i≠j->iU (TE,TE) (TE,TE)),fun b ob e=>Ra e,fun i _=>⟨Hh,Hh⟩,fun i _=>⟨⟨o,a⟩,o,a⟩⟩
 refine cN (Option.isSome_iff_exists.mp (by kernel_rfl:(fnAt (KF P) 817).isSome=true)) fun q m=>(bY (HJ m) fun V O=>?_)
 have l:=B7 P;rw [m] at l;injection l with M l
 injection l with S g3
 have run:=L.code (A:=callerA) (d:=40) (Z:=fun v s'=>v=.bool true/\gv s s'/\∀b o',s.heap.get? b=some o'->s'.heap.get? b=some o') G ⟨by decide,by decide,rfl⟩ m M S (.cons (.obj 0 Nat.zero_lt_one) .nil) g3 (bC (gC 0x11FC908 tt)) fun F cb H' u w'=>by
  refine eL V ?_;rw [O] at H';have D:=w'.same 0 Nat.zero_lt_one;refine wp_mono (Lf (hb _ o G) H' (eL D rfl)) fun f s' z=>⟨z.1,w'.sm.trans z.2.1,fun b o' e=>(z.2.2 b o' ?_ (bX e u))⟩
  by_cases q:b=TE
  .have h:=(H'.rel.ob 0 _ rfl).1;rw [D] at h;rw [q] at e ⊢;rw [e] at a;exact eL (bB a) h
  .exact w'.keep b o' e (bX e u) fun i _=>⟨q,q⟩
 refine bu (mi run) (fun v s' z=>?_) fun _ _ x=>x.elim
 refine fq z fun H sm k=>?_;subst H
 exact⟨.inl ⟨_,_,[],rfl,hr,ReadsW.bool true,hp,fun _=>⟨List.nodup_nil,fun _ J=>(iS J)⟩⟩,.of_keep k,sm.os,sm.Km (.of_eq hg)⟩
end
theorem xE{R:List Row}{T:List Nat}(c:∀r∈R,fT r)(hT:∀x∈T,x∈AL)(b:T.length+745*R.length<=8940):(fc R T).length<=8940/\∀x∈fc R T,x∈AL:=by
 induction R generalizing T with
 |nil=>exact⟨b,hT⟩
 |cons r R d=>
  rw [ay,mul_succ] at b;have a:=wI (c r (.head _)) hT;exact d (fun x h=>c x (.tail _ h)) a.2 (by have:=a.1;exact dN 0x10FCBEB2BACD29BEBA04FCBEB2BACC9BEBAD29BEBA14FC9BEBA10 tt a.1 b)
theorem HG(ns:List Int):mP (fc (dU ns) []):=by
 have g:=jC (ns:=ns);have z:=xE (R:=dU ns) (T:=[]) (fun r h=>(g.1 r h).1) (fun _ h=>iS h) (ag (Nat.le_of_eq (Nat.zero_add _)) (mul_le_mul_left 745 g.2));exact⟨ag z.1 (by decide),z.2⟩
def A3:List Nat:=13::A2
section
theorem PY(h:c∈A3):∀x∈(gA N c p).1,x∈A3:=by
 have d:∀r b,∀x∈CQ r b,x∈A3:=fun r b=>by unfold CQ;cases r==1||(r==2&&b)<;>cases r==2<;>decide
 have f:∀r b,∀x∈zd r b,x∈A3:=fun r b=>by unfold zd;cases r%2 !=0||!b<;>cases Nat.blt r 2<;>decide
 have e:∀r b,∀x∈zk r b,x∈A3:=fun r b=>by unfold zk;cases r%2 !=0||b<;>cases Nat.blt r 2<;>decide
 unfold gA;cases c==10 with
 |true=>exact d _ _
 |false=>
  cases xd N&&c==38 with
  |true=>exact f _ _
  |false=>
   cases xd N&&c==60 with
   |true=>exact e _ _
   |false=>exact fun x a=>aB.mp a▸h
theorem HS(N)(p)(hp:∀x∈p.2,x∈A3):∀ct:List Nat,(∀x∈ct,x∈A3)->∀x∈(ct.foldr (fun c p=>gG N p c) p).2,x∈A3:=by
 intro ct;induction ct with
 |nil=>exact fun _=>hp
 |cons c ct b=>exact fun h x a=>(bg.mp a).elim (PY (h c (.head _)) x) (b (fun y d=>h y (.tail _ d)) x)
theorem HD:∀n∈gM,∀c∈n,c∈A3/\c-32∈A3:=by decide+kernel
theorem pL(c:n∈gM):∀x∈cJ n b,x∈A3:=fun x a=>by
 refine bW (bL.mp a) fun p hp e=>?_;have k:=HD n c p.1 (aR (mem_zipIdx_iff_getElem?.mp hp))
 refine eR e ?_;cases b/2^p.2%2 !=0 with
 |true=>exact k.2
 |false=>exact k.1
theorem zO(g):∀x∈pZ g,x∈A3:=by
 rcases g with _|_|_|g<;>first|decide|exact fun x a=>iS a
theorem EU(b:r.nm∈gM)(hT:∀x∈T,x∈A3):∀x∈jz r T,x∈A3:=fun x a=>by
 have h:x∈[60,47]++cJ r.nm (r.w/3)++pZ (r.w/2%3)++[62]++T:=a;simp only [bg] at h;rcases h with(((h|h)|h)|h)|h
 .exact (by decide:∀x∈[60,47],x∈A3) x h
 .exact pL b x h
 .exact zO _ x h
 .exact (by decide:∀x∈[62],x∈A3) x h
 .exact hT x h
theorem qI(b:r.nm∈gM)(hT:∀x∈T,x∈A3):∀x∈startT r T,x∈A3:=fun x a=>by
 have h:x∈[60]++cJ r.nm r.w++pZ (r.w%3)++[62]++T:=a;simp only [bg] at h;rcases h with(((h|h)|h)|h)|h
 .exact (by decide:∀x∈[60],x∈A3) x h
 .exact pL b x h
 .exact zO _ x h
 .exact (by decide:∀x∈[62],x∈A3) x h
 .exact hT x h
theorem Qy(g:fT r)(b:∀x∈r.ct,x∈A2)(hT:∀x∈T,x∈A3):∀x∈eE r T,x∈A3:=by
 have body:∀ {U},(∀x∈U,x∈A3)->∀x∈jE r U,x∈A3:=fun {U} a=>HS r.nm (r.w,U) a r.ct fun x h=>.tail _ (b x h)
 unfold eE;rcases g.nm with h|h
 .exact eL h (body hT)
 .have ne:r.nm.isEmpty=false:=by
   have:∀n∈gM,n.isEmpty=false:=by decide
   exact this _ h
  refine eL ne ?_;cases r.nm==eN with
  |true=>exact qI h (body hT)
  |false=>exact qI h (body (EU h hT))
theorem KP{R:List Row}(a:∀r∈R,fT r/\∀x∈r.ct,x∈A2/\x≠13)(hT:∀x∈T,x∈A3):∀x∈fc R T,x∈A3:=by
 induction R generalizing T with
 |nil=>exact hT
 |cons r R b=>exact b (fun x h=>a x (.tail _ h)) (Qy (a r (.head _)).1 (fun x h=>((a r (.head _)).2 x h).1) hT)
theorem IM(h:∀x∈s,x∈A3):∀x∈cf s,x∈A2:=fun x a=>by
 have k:=((kz _ _).2 x a).elim .inl fun z=>(kz _ _).2 x z
 rcases k with z|z
 .refine eL z ?_;decide
 .exact (aU.mp (h x z)).elim (fun q=>absurd q (fun z=>IP (z▸a):x≠13)) id
theorem Sa(ns:List Int):∀c∈cf (fc (dU ns) []),c∈A2:=IM (KP (jC (ns:=ns)).1 fun _ h=>iS h)
end
theorem HM{R:List Row}{D:List Itm}:(tL R D).length<=D.length+3*R.length:=by
 induction R generalizing D with
 |nil=>exact ah _
 |cons r R a=>
  exact eL ay (kF 0x10FCDC933B8124FCD33B8024FC3B810 tt (wu (D:=D) (r:=r)) (a:(tL R (fY D r)).length<=_))
theorem join_nil:wJ [] l=l:=by
 rcases l with _|⟨⟨⟩,_⟩<;>rfl
section
def IE(ns:List Int):List Itm:=(tL (dU ns) []).reverse
theorem Cr(W:Wk P)(b:Pg W.T l)(a:l.length<=600)(c:An W l):Go W 297 .no none [] [] 0:=
 LA b none none [] [] 0 rfl (.inl ⟨rfl,rfl⟩) ⟨(fun _ h=>nomatch h),zero_le _,(fun _ h=>nomatch h),(fun _ h=>nomatch h)⟩ (gC 0x10F8B5BAC084F8B5BA0 tt a) (fun _ h=>nomatch h) (eL join_nil c)
theorem Wv(G:Good (cx P Z))(r:IC P Z)(g:ns.length<64)(s:Pg (cf (fc (dU ns) [])) (IE ns))
  (m:∀(W:Wk P) (d q e:Nat) (n c w a:AV),W.Z=Z->W.raw=fc (dU ns) []->W.T=cf (fc (dU ns) [])->W.Fin=Ke P Z o ns->W.pre=dQ d (tx (fc (dU ns) [])) q e n c w a->(q,e)∈nP->nW d W.D (tL (dU ns) [])->W.D[0]?=some (.dy o (cQ ns))->An W (IE ns)):
  cG (cx P Z) (bodyOf (KF P) 817) (dh P 817 [("script",.obj 0)] [.dy o (cQ ns)] 40) (.ret (.lf (.bool true))) [.dy o (cQ ns)]:=
 RE G r g (HG ns) (Sa ns) fun W d q e n c w a p i b l f k j h=>Cr W (b▸s) (by
  refine eL length_reverse ?_;exact cC 0x10F8B5BA14FCD03B881CFCB80 tt ((jC).2) ((HM):(tL (dU ns) []).length<=0+3*(dU ns).length)) (m W d q e n c w a p i b l f k j h)
end
theorem sA:∀n∈gM,∀c∈n,(lo1 c=c/\lo1 (c-32)=c)/\gS.contains c=true/\gS.contains (c-32)=true:=by decide+kernel
theorem Rr:∀n∈gM,n≠[]/\(names.any fun p=>p.1==n)=true:=by decide+kernel
section
theorem vJ(d:n∈gM){x:Nat}(a:x∈cJ n b):∃c∈n,x=c\/x=c-32:=by
 refine bW (bL.mp a) fun p hp e=>⟨p.1,aR (mem_zipIdx_iff_getElem?.mp hp),(eR e ?_)⟩
 cases b/2^p.2%2 !=0 with
 |true=>exact .inr rfl
 |false=>exact .inl rfl
theorem Cb(a:n∈gM):(cJ n b).map lo1=n:=by
 refine eL bh (Eq.trans (bG (g:=Prod.fst) fun p hp=>?_) (List.zipIdx_map_fst 0 n));have k:=(sA n a p.1 (aR (mem_zipIdx_iff_getElem?.mp hp))).1;show lo1 (bif b/2^p.2%2 !=0 then p.1-32 else p.1)=p.1;cases b/2^p.2%2 !=0 with
 |true=>exact k.2
 |false=>exact k.1
theorem Fh(a:n∈gM):∃st,(n,st)∈names/\Nm (cJ n b) n st:=by
 refine bY (Rr n a) fun ne k=>?_;obtain⟨⟨m,st⟩,hm,e⟩:=List.any_eq_true.mp k
 obtain rfl:m=n:=aC.mp e;refine⟨st,hm,⟨fun z=>ne (bI.mp ((gj m b).symm.trans (az length z))),(eL (gj ..) (ag (jy m a) (by decide))),fun x d=>?_,Cb a,hm⟩⟩
 .refine bW (vJ a d) fun c f e=>?_;have l:=(sA m a c f).2
  rcases e with e|e
  .exact eL e l.1
  .exact eL e l.2
end
section
theorem kE:dD [13,10] [10] (n+1) (c::r)=if([13,10]).isPrefixOf (c::r) then 10::dD [13,10] [10] n (r.drop 1) else c::dD [13,10] [10] n r:=by
 refine eL (eV ..) ?_;rfl
theorem DP(h:∀j,a=j++[13]->b.head?≠some 10):a.length+b.length<n->a.length<m->b.length<k->dD [13,10] [10] n (a++b)=dD [13,10] [10] m a++dD [13,10] [10] k b:=by
 induction n generalizing a b m k with
 |zero=>exact fun z=>absurd z (not_lt_zero _)
 |succ n l=>
  intro f d i;rcases a with _|⟨c,r⟩
  .refine eL (nil_append ..) (eL gZ (eL (nil_append ..) ?_));rcases b with _|⟨c,r⟩
   .exact eL gZ (eL gZ rfl)
   .rcases k with _|k
    .exact absurd i (not_lt_zero _)
    have same:∀g:List Nat,g.length<=r.length->dD [13,10] [10] n g=dD [13,10] [10] k g:=fun g hr=>by
     have z:=l (a:=g) (b:=[]) (m:=k) (k:=1) (fun _ _=>fun q=>cX q) (by show g.length+0<n;exact dN 0x11F1C824F025FC91CC908 tt (f:0+(r.length+1)<n+1) hr) (dN 0x11F124F025FC91C90 tt (i:r.length+1<k+1) hr) (by decide);rw [aF,gZ,aF] at z;exact z
    exact eL kE (eL kE (eL (same r (ah _) ..) (eL (same (r.drop 1) (eL bw (sub_le _ _)) ..) rfl)))
  .rcases m with _|m
   .exact absurd d (not_lt_zero _)
   have f:r.length+1+b.length<n+1:=f;have d:r.length+1<m+1:=d;have e:([13,10]:List Nat).isPrefixOf (c::(r++b))=([13,10]:List Nat).isPrefixOf (c::r):=by
    clear d f i l;rcases r with _|⟨e,r⟩
    .show ((13==c)&&([10]:List Nat).isPrefixOf b)=((13==c)&&false);clear d f n;rcases q:(13==c) with _|_
     .rfl
     .have o:13=c:=aC.mp q;have hb:=h [] (by refine eR o ?_;rfl);clear o h;rcases b with _|⟨x,b⟩
      .rfl
      .show (10==x&&true)=false;rcases p:(10==x) with _|_
       .rfl
       .exact absurd (az some (aC.mp p).symm) hb
    .rfl
   refine eL cons_append (eL kE (eL kE (eL e ?_)));by_cases q:([13,10]:List Nat).isPrefixOf (c::r)=true
   .refine eL (if_pos q) (eL (if_pos q) ?_);clear e;rcases r with _|⟨u,r⟩
    .exact absurd q (by show ¬((13==c)&&false)=true;exact eL (Bool.and_false ..) aA)
    .show 10::dD _ _ n (r++b)=10::dD _ _ m r++_;refine eL (l (a:=r) (b:=b) (m:=m) (k:=k) (fun j z=>h (c::u::j) (by refine eL z ?_;rfl)) (dN 0x11F2C105FC92C1C9C90 tt (f:r.length+1+1+b.length<n+1)) (cC 0x11F105FC91C9C90 tt (d:r.length+1+1<m+1)) i) ?_;rfl
   .refine eL (if_neg q) (eL (if_neg q) (eL (l (a:=r) (b:=b) (m:=m) (k:=k) (fun j z=>h (c::j) (by refine eL z ?_;rfl)) (dN 0x11F2C105FC92C1C90 tt f) (cC 0x11F105FC91C90 tt d) i) ?_));rfl
theorem qf(h:∀c,a=c++[13]->b.head?≠some 10):cf (a++b)=cf a++cf b:=by
 have e:dP [13,10] [10] (a++b)=dP [13,10] [10] a++dP [13,10] [10] b:=
  DP h (eL aa (bF _)) (bF _) (bF _)
 unfold cf;exact eL e (eL hH (eL hH (eL hH (eL List.flatMap_append rfl))))
end
section
theorem mn(h:13∉a):cf (a++T)=a++cf T:=by
 exact eL (qf fun b e=>absurd (eL e (mem_append_right b (.head _))) h:cf (a++T)=cf a++cf T) (az (·++cf T) (Ma h))
theorem oS:cf (CQ r (T.take 1==[10])++T)=10::cf T:=by
 have one:cf ([10]++T)=10::cf T:=mn (by decide);have two:cf ([13,10]++T)=10::cf T:=by
  exact qf fun a e=>by
   have:([13,10]:List Nat).getLast?=some 13:=by exact eL e (eL aX rfl)
   exact absurd this (by decide)
 unfold CQ;rcases q:(T.take 1==[10]) with _|_
 .have b:cf ([13]++T)=10::cf T:=by
   exact qf fun a _ z=>by
    clear two one;rcases T with _|⟨x,T⟩
    .exact cX z
    .rw [bB z] at q;exact aA (q.symm.trans rfl)
  cases r==1<;>cases r==2<;>first|exact one|exact two|exact b
 .cases r==1<;>cases r==2<;>first|exact one|exact two
end
section
variable{Y:List Nat}
theorem jm(h:x≠13):cf (x::X)=x::cf X:=mn fun z=>h (aB.mp z).symm
theorem Ae:∃Y,cf (13::X)=10::Y:=by
 have k:=oS (T:=X) (r:=2);cases q:X.take 1==[10] with
 |false=>rw [q] at k;exact⟨_,k⟩
 |true=>
  rcases X with _|⟨y,X⟩
  .exact jD q
  .obtain rfl:y=10:=head_eq_of_cons_eq (aC.mp q);exact⟨_,(oS (r:=1))⟩
theorem Hi:∀ {a X:List Nat},cf X=a++Y->10∉a->∃b,X=a++b:=by
 intro a;induction a with
 |nil=>exact fun {X} _ _=>⟨X,rfl⟩
 |cons d a i=>
  intro X h c;rcases X with _|⟨x,X⟩
  .exact KZ h
  .by_cases q:x=13
   .subst q;refine cN (Ae (X:=X)) fun Z k=>?_
    rw [k] at h;exact absurd (head_eq_of_cons_eq h▸.head _) c
   .rw [jm q] at h;injection h with f g
    exact cN (i g fun z=>c (.tail _ z)) fun b e=>⟨b,by refine eL f (eL e ?_);rfl⟩
theorem TN(h:(Gj.any fun s=>X.take 1==s)=true):EN (cf X):=fun y l e=>by
 rcases X with _|⟨x,X⟩
 .exact KZ e
 .refine bW (List.any_eq_true.mp h) fun s a q=>?_;have q:[x]=s:=aC.mp q
  subst q;by_cases z:x=13
  .subst z;refine cN (Ae (X:=X)) fun Z k=>?_
   obtain rfl:=head_eq_of_cons_eq (k.symm.trans e);decide
  .obtain rfl:=head_eq_of_cons_eq ((jm z).symm.trans e);have k:∀s∈Gj,∀x,[x]=s->x≠13->x∈[32,10,60,38]:=by
    intro s a x e;subst e;have:x∈[32,10,13,60,38]:=by simpa [Gj] using a
    intro n;simp at this ⊢;lia
   exact k _ a x rfl z
theorem Enc.app(E:Enc bar Lt (s0++t) s c)(f:Enc bar Lt t s0 c0):Enc bar Lt t (s++s0) (c++c0):=by
 induction E with
 |nil=>exact f
 |chr b _ a=>exact .chr b a
 |amp hb e _ a=>exact .amp hb (aw ..▸e) a
 |ref hb hr _ a=>exact eL (aw ..) (.ref hb hr a)
 |lt d _ a=>exact .lt (aw ..▸d) a
theorem HN:(zd r b,38)∈qL\/zd r b=[38]/\b=true:=by
 unfold zd;induction b<;>cases r%2 !=0<;>cases Nat.blt r 2<;>first|exact .inl (.head _)|exact .inl (.tail _ (.head _))|exact .inr ⟨rfl,rfl⟩
theorem Gr:(zk r b,60)∈qL\/zk r b=[60]/\b=false:=by
 unfold zk;induction b<;>cases r%2 !=0<;>cases Nat.blt r 2<;>first|exact .inl (.tail _ (.tail _ (.head _)))|exact .inl (.tail _ (.tail _ (.tail _ (.head _))))|exact .inr ⟨rfl,rfl⟩
theorem Kt:∀q∈qL,13∉q.1:=by decide
theorem AN(hr:xd N=true)(a:N=[]\/∀X,((X.take (1+N.length)).map lo1==47::N)=false->Lt (cf X)):∀ct,13∉ct->∃b,cf (ct.foldr (fun c p=>gG N p c) (w,T)).2=b++cf T/\Enc [38,60] Lt (cf T) b ct:=by
 intro ct;induction ct with
 |nil=>exact fun _=>⟨[],rfl,.nil⟩
 |cons x ct j=>
  intro f;refine bW (j fun z=>f (.tail _ z)) fun b e E=>?_
  show ∃d,cf ((gA N x (ct.foldr (fun c p=>gG N p c) (w,T))).1++(ct.foldr (fun c p=>gG N p c) (w,T)).2)=_/\_;generalize ct.foldr (fun c p=>gG N p c) (w,T)=p at e;by_cases m:x=10
  .subst m;exact⟨10::b,oS.trans (az _ e),.chr (by decide) E⟩
  have g:=aN.mpr m;have rf:∀ {l},(l,x)∈qL->∃d,cf (l++p.2)=d++cf T/\Enc [38,60] Lt (cf T) d (x::ct):=fun {l} h=>⟨l++b,eL (mn (Kt _ h)) (eL e (eL (aw ..) rfl)),.ref (.head _) h E⟩
  have sg:x≠13:=fun z=>f (z▸.head _)
  unfold gA;refine eL g (eL hr ?_);by_cases k:x=38
  .clear g f j hr a;subst k;show ∃d,cf (zd (p.1%4) _++p.2)=_/\_;rcases HN with h|⟨h,q⟩
   .exact rf h
   .exact eL h (⟨38::b,(jm sg).trans (az _ e),.amp (.head _) (e▸TN q) E⟩)
  by_cases i:x=60
  .clear g f j hr;subst i;show ∃d,cf (zk (p.1%4) _++p.2)=_/\_;rcases Gr with h|⟨h,q⟩
   .exact rf h
   .refine eL h ⟨60::b,(jm sg).trans (az _ e),.lt ?_ E⟩;clear sg rf E ct;rcases a with a|a
    .clear e;subst a;exact SI q
    .refine eR e ?_;clear e;cases z:N.isEmpty with
     |true=>rw [z] at q;exact SI q
     |false=>rw [z] at q;exact a p.2 q
  exact eL (aN.mpr k) (eL (aN.mpr i) (⟨x::b,(jm sg).trans (az _ e),.chr (fun z=>(aU.mp z).elim k fun z=>i (aB.mp z)) E⟩))
theorem wa(hr:xd N=false):∀ct,13∉ct->cf (ct.foldr (fun c p=>gG N p c) (w,T)).2=ct++cf T:=by
 intro ct;induction ct with
 |nil=>exact fun _=>rfl
 |cons x ct b=>
  intro a;have e:=b fun z=>a (.tail _ z)
  show cf ((gA N x (ct.foldr (fun c p=>gG N p c) (w,T))).1++(ct.foldr (fun c p=>gG N p c) (w,T)).2)=_;generalize ct.foldr (fun c p=>gG N p c) (w,T)=p at e;by_cases d:x=10
  .clear a b hr;subst d;exact oS.trans (az _ e)
  unfold gA;exact eL (aN.mpr d) (eL hr ((jm fun z=>a (z▸.head _)).trans (az _ e)))
theorem IZ:∀s,(∀p v,s=p++60::v->Lt (v++t))->Enc [60] Lt t s s:=by
 intro s;induction s with
 |nil=>exact fun _=>.nil
 |cons x s a=>
  intro h;have k:=a fun p v e=>h (x::p) v (az _ e)
  by_cases q:x=60
  .subst q;exact .lt (h [] s rfl) k
  .exact .chr (fun z=>q (aB.mp z)) k
end
section
theorem EA:∀a∈gS,a≠10/\a≠60:=by decide
theorem vt(a:kf N l=true):l.map lo1=N.map lo1/\l.length=N.length:=by
 have e:=aC.mp a;have k:=az length e;rw [aj,aj] at k;exact⟨e.symm,k.symm⟩
theorem UP(f:N.map lo1=N)(h:((X.take (1+N.length)).map lo1==47::N)=false):nk N false (cf X):=by
 refine⟨fun l d g e _ a _ b=>(bY (vt b) fun e1 e2=>?_),fun z=>jD z⟩;refine cN (Hi e fun z=>(aU.mp z).elim (fun z=>nomatch z) fun z=>(EA 10 (contains_iff_mem.mp (a 10 z))).1 rfl) fun i c=>?_;subst c
 rw [show 1+N.length=(47::l).length by exact eL ay (cC 0x12FC90C197F10 tt e2),take_left] at h;have k:(47::l).map lo1=47::N:=by refine eR f (eR e1 ?_);rfl
 rw [k,bk] at h;exact SI h
theorem wA:∀ {v},v++60::g=a++e->60∉a->∃w,v=a++w:=by
 induction a with
 |nil=>exact fun {v} _ _=>⟨v,rfl⟩
 |cons x a f=>
  intro v h b;rcases v with _|⟨y,v⟩
  .exact absurd (head_eq_of_cons_eq h▸.head _) b
  .injection h with c d
   exact cN (f d fun z=>b (.tail _ z)) fun w e=>⟨w,by refine eL c (eL e ?_);rfl⟩
theorem Qo(j:N.map lo1=N)(c:sc=true->N=qa)(h:kQ N (60::v++e)=false):nk N sc (v++60::p):=by
 unfold kQ at h;refine⟨fun l d b q _ m _ f=>fun hd=>?_,fun z b q=>?_⟩
 .refine bY (vt f) fun e1 e2=>?_;have o:60∉47::(l++[d]):=fun z=>by
   rcases aU.mp z with z|z
   .cases z
   .rcases bg.mp z with z|z
    .exact (EA 60 (contains_iff_mem.mp (m 60 z))).2 rfl
    .obtain rfl:=aB.mp z;exact absurd hd (by decide)
  obtain⟨w,rfl⟩:=wA (e:=b) (by refine eL q ?_;simp) o;have n:ri N (60::(47::(l++[d])++w)++e)=true:=by
   unfold ri;refine eL (by simp:60::(47::(l++[d])++w)++e=(60::47::l)++(d::w++e)) (eL (by simp only [ay];exact cC 0x12FC9C90C1A7F10 tt e2:2+N.length=(60::47::l).length) (eL take_left ?_));have k:(60::47::l).map lo1=60::47::N:=by refine eR j (eR e1 ?_);rfl
   exact eL k (bk _)
  have i:Ig N (60::(47::(l++[d])++w)++e)=true:=by
   unfold Ig;exact eL (by simp:60::(47::(l++[d])++w)++e=(60::47::l)++(d::w++e)) (eL (by simp only [ay];exact cC 0x12FC9C90C1A7F10 tt e2:2+N.length=(60::47::l).length) (eL drop_left (List.any_eq_true.mpr ⟨d,(by decide:∀x∈[10,32,47,62],x∈xP) d hd,bk _⟩)))
  rw [n,i,Bool.and_self,Bool.or_true] at h;exact SI h
 .refine cN (wA (a:=[33,45,45]) q (by decide)) fun w g=>?_;subst g
  rw [c z] at h;exact SI h
theorem Rt:∀C p v,jb N C=p++60::v->∃e,kQ N (60::v++e)=false:=by
 intro C;induction C with
 |nil=>exact fun p v h=>by rcases p with _|⟨_,_⟩<;>cases h
 |cons x C b=>
  intro p v h;rw [show jb N (x::C)=bif kQ N (x::C) then[] else x::jb N C from rfl] at h;cases q:kQ N (x::C) with
  |true=>rw [q] at h;rcases p with _|⟨_,_⟩<;>cases h
  |false=>
   rw [q] at h;have pre:∀C,∃e,C=jb N C++e:=by
    intro C;induction C with
    |nil=>exact⟨[],rfl⟩
    |cons x C b=>
     refine eL (show jb N (x::C)=bif kQ N (x::C) then[] else x::jb N C from rfl) ?_;cases kQ N (x::C) with
     |true=>exact⟨_,rfl⟩
     |false=>exact b.imp fun e h=>az _ h
   rcases p with _|⟨y,p⟩
   .injection h with c a
    exact cN (pre C) fun e d=>⟨e,eR c (eL cons_append (eR a (eR d q)))⟩
   .injection h with c a
    exact b p v a
end
noncomputable def Rz(c:List Nat)(l:List Itm):List Itm:=match c with
 |[]=>l
 |_=>match l with
  |.tx d::r=>.tx (c++d)::r
  |l=>.tx c::l
section
variable{st:Addr}
theorem sM(h:l=[]\/∃g r,l=.tag g::r):Rz c (lW c0 l)=lW (c++c0) l:=by
 rcases c with _|⟨x,c⟩
 .rfl
 .rcases c0 with _|⟨y,c0⟩
  .rcases h with rfl|⟨g,r,rfl⟩
   .exact (az (fun z=>[Itm.tx z]) (aF _)).symm
   .exact (az (fun z=>Itm.tx z::Itm.tag g::r) (aF _)).symm
  .rfl
theorem Pg.pre(h:Pg t l)(E:Enc [38,60] Hq t s c):Pg (s++t) (Rz c l):=by
 induction h with
 |@fin e c0 a=>
  exact eL (sM (.inl rfl)) (.fin (.app (eL (aF ..) E) a))
 |elem a m d hg b B h=>
  exact eL (sM (.inr (dJ _ _ rfl))) (eR (aw ..) (.elem (.app E a) m d hg b B h))
 |pt a m hg=>
  exact eL (sM (.inr (dJ _ _ rfl))) (eR (aw ..) (.pt (.app E a) m hg))
theorem EC(a:r.nm=[]):(fY D r).reverse=Rz r.ct D.reverse:=by
 unfold fY;refine eL a ?_;rcases c:r.ct with _|⟨x,ct⟩
 .rfl
 .rcases eq_nil_or_concat D with rfl|⟨b,y,rfl⟩
  .rfl
  .refine eL concat_eq_append (eL reverse_concat (eL aX (eL dropLast_concat ?_)));induction y with
   |tx d=>exact reverse_concat
   |tag g=>exact reverse_concat.trans (az _ reverse_concat)
theorem Gn(a:r.nm=[])(c:13∉r.ct)(h:Pg (cf T) D.reverse):Pg (cf (eE r T)) (fY D r).reverse:=by
 refine bW (AN (w:=r.w) (T:=T) (Lt:=Hq) rfl (.inl rfl) r.ct c) fun b e E=>(eL (EC a) ?_)
 unfold eE jE;exact eL a (eL e (h.pre E))
theorem tV(g):pZ g∈vO:=by
 rcases g with _|_|_|g<;>first|exact .head _|exact .tail _ (.head _)|exact .tail _ (.tail _ (.head _))
theorem nF(c:N∈gM)(a:(N,st)∈names):Nm (cJ N b) N st:=(Fh c).elim fun _ k=>⟨k.2.ne,k.2.len,k.2.Jv,k.2.low,a⟩
theorem sN:(13∉A2/\∀n∈gM,n.map lo1=n/\n.isEmpty=false)/\∀n∈gM,∀c∈n,c≠13/\c-32≠13:=by decide
theorem uT(a:N∈gM):13∉cJ N b:=fun h=>by
 refine bW (vJ a h) fun c d e=>?_;have k:=sN.2 N a c d
 exact e.elim (fun e=>k.1 e.symm) fun e=>k.2 e.symm
theorem Nr:13∉pZ n:=fun h=>(by decide:∀g∈vO,13∉g) _ (tV n) h
theorem qW(a:r.nm∈gM):cf (startT r T)=Ul (cJ r.nm r.w) (pZ (r.w%3)) (cf T):=by
 exact(mn (by simp [uT a,Nr])).trans (by simp)
theorem qO(a:r.nm∈gM):cf (jz r T)=OC (cJ r.nm (r.w/3)) (pZ (r.w/2%3)) (cf T):=by
 exact(mn (by simp [uT a,Nr])).trans (by simp)
theorem zA:(lW c []).reverse=lW c []:=by rcases c with⟨⟩<;>rfl
theorem JY:lW c []++l=lW c l:=by rcases c with⟨⟩<;>rfl
theorem Ll(a:r.nm=eN)(f:13∉r.ct):Pg (cf (eE r [])) (fY [] r).reverse:=by
 have c:r.nm∈gM:=by refine eL a ?_;decide
 have e:eE r []=startT r (jE r []):=by unfold eE;refine eL a ?_;rfl
 have d:(fY [] r).reverse=.tag ⟨true,r.nm⟩::lW r.ct []:=by
  unfold fY;exact eL a (eL reverse_concat (eL zA rfl))
 have b:=(wa (N:=r.nm) (w:=r.w) (T:=[]) (by refine eL a ?_;rfl) r.ct f).trans (aF _);exact eL e (eL d (eL (qW c) (eL b (.pt .nil (nF c (by refine eL a ?_;decide)) (tV _)))))
theorem pJ(a:r.nm∈gM)(hp:(r.nm==eN)=false)(i:13∉r.ct)(h:Pg (cf T) D.reverse)
  (g:∃b,cf (jE r (jz r T))=b++cf (jz r T)/\(r.nm,st)∈names/\YO r.nm st (cf (jz r T)) b r.ct):Pg (cf (eE r T)) (fY D r).reverse:=by
 refine cS g fun b e c B=>?_;have f:=(sN.1.2 r.nm a).2
 have d:(fY D r).reverse=.tag ⟨true,r.nm⟩::lW r.ct (.tag ⟨false,r.nm⟩::D.reverse):=by
  unfold fY;exact eL f (eL hp (eR (aw ..) (eR (aw ..) (eL reverse_concat (eL List.reverse_append (eL reverse_concat (eL zA (eL JY rfl))))))))
 have eR:eE r T=startT r (jE r (jz r T)):=by unfold eE;refine eL f (eL hp ?_);rfl
 refine eL eR (eL d (eL (qW a) (eL e (eL (qO a) ?_))));rw [qO a] at B;exact .elem .nil (nF a c) (nF a c) (tV _) (tV _) B h
set_option synthInstance.maxSize 1000 in
theorem CB:∀m<7,(m=6\/m=5)\/lq m∈gM/\(lq m==eN)=false/\((xd (lq m)=true/\(lq m,311)∈names)\/(xd (lq m)=false/\CX m=false/\((lq m,325)∈names\/(lq m=qa/\(lq m,332)∈names)))):=by decide
theorem Lq:∀(f:Nat) (ts:List Nat),ts.length<=12->Pg (cf ((fh f ts).foldr eE [])) ((fh f ts).foldr (fun r D=>fY D r) []).reverse:=by
 intro f;induction f with
 |zero=>exact fun _ _=>.fin .nil
 |succ f o=>
  intro ts h;rcases ts with _|⟨n,ts⟩
  .exact .fin .nil
  .have l:ts.length<=12:=ag (aE _) h;have g:=o (ts.drop (pC (n%7) (gJ n))) (eL bw (ag (sub_le _ _) l));have c:=fun z=>((pT n l).2 13 z).2 rfl
   have t:n%7<7:=mod_lt _ (by decide);show Pg (cf (eE (rowOf n ts) _)) (fY _ (rowOf n ts)).reverse;rcases CB _ t with(q|q)|⟨d,hp,m⟩
   .exact Gn (by show lq (n%7)=[];refine eL q ?_;rfl) c g
   .have e:ts.drop (pC (n%7) (gJ n))=[]:=by
     exact eL q (drop_eq_nil_of_le (show ts.length<=20 from ag l (by decide)))
    have e2:fh f []=[]:=by induction f<;>rfl
    exact eL e (eL e2 (Ll (by show lq (n%7)=eN;refine eL q ?_;rfl) c))
   .rcases m with⟨hr,a⟩|⟨hr,i,a⟩
    .exact pJ (st:=311) d hp c g (bW (AN (w:=(rowOf n ts).w) (T:=jz (rowOf n ts) ((fh f (ts.drop (pC (n%7) (gJ n)))).foldr eE [])) hr (.inr fun X=>UP (sN.1.2 _ d).1) (rowOf n ts).ct c) fun b e E=>⟨b,e,a,.inl ⟨rfl,E⟩⟩)
    .have e:=wa (w:=(rowOf n ts).w) (T:=jz (rowOf n ts) ((fh f (ts.drop (pC (n%7) (gJ n)))).foldr eE [])) hr (rowOf n ts).ct c;have s:(rowOf n ts).ct=jb (lq (n%7)) (oE n ts):=by show(bif CX (n%7) then _ else _)=_;refine eL i ?_;rfl
     have E:∀sc,(sc=true->lq (n%7)=qa)->Enc [60] (nk (lq (n%7)) sc) (cf (jz (rowOf n ts) ((fh f (ts.drop (pC (n%7) (gJ n)))).foldr eE []))) (rowOf n ts).ct (rowOf n ts).ct:=fun sc a=>IZ _ fun p v q=>by
      exact cN (Rt _ p v (s.symm.trans q)) fun e j=>(eL (qO d) (Qo (sN.1.2 _ d).1 a j))
     rcases a with a|⟨a,k⟩
     .exact pJ d hp c g ⟨_,e,a,.inr (.inl ⟨rfl,E false fun z=>jD z⟩)⟩
     .exact pJ d hp c g ⟨_,e,k,.inr (.inr ⟨rfl,E true fun _=>a⟩)⟩
theorem DS(ns):Pg (cf (fc (dU ns) [])) (IE ns):=by
 unfold IE fc tL dU;exact eL List.foldl_reverse (eL List.foldl_reverse (Lq 12 (eJ ns) (by exact eL jg (bO _ _))))
end
section
open Classical in
noncomputable def me(R:Rc)(x:Expr)(a:St)(r:Bool×St):Rc:={ R with gO:=fun e σ=>if e=x/\σ=a then some r else R.gO e σ }
section
variable{C:Ctx}{x l r e st:Expr}{σ fi lV τ:St}{a b:AV}{p p1 q:Pos}{n:Str}{t:List Stmt}{d:Nat}{xs:List AV}
open Classical in
theorem vV{R:Rc}{c:Bool}(f:cD C R)(h:fx C x σ c τ):cD C (me R x σ (c,τ)):=⟨f.ev,fun F Ω e g w s H=>by
  show OP (if e=x/\s=σ then some (c,τ) else R.gO e s) _;by_cases q:e=x/\s=σ
  .refine eL (if_pos q) ?_;obtain⟨rfl,rfl⟩:=q;exact .intro fun p e=>bB e▸h F g H
  .refine eL (if_neg q) ?_;exact f.gO F Ω e g w s H,f.ex,f.fL,f.call,f.uF,f.NJ,f.asg⟩
theorem AM(G:Good C)(k:Nat):cD C (Rc.iter C.K C.Φ [] dG (lU C.Φ) k):=gU G bU eY (jf G) k
theorem sP{R:Rc}(G:Good C)(c:cD C R):cD C (R.step C.K C.Φ [] dG (lU C.Φ)):=mA G bU eY (jf G) c
theorem lA.YL(G:Good C){x y:Expr}(f:fx C x σ false fi)(g:fx C y fi false lV)(c:fi≠σ):lA C (.If (.BoolOp .Or [x,y] p) t [] q) σ .next lV:=fun F Ω H=>by
 refine((sP G (sP G (vV (vV (AM G 2) g) f))).ex F Ω (.If (.BoolOp .Or [x,y] p) t [] q) Ω .refl σ H).of (?_:_=some (.next,lV));have e1:(me (me (Rc.iter C.K C.Φ [] dG (lU C.Φ) 2) y fi (false,lV)) x σ (false,fi)).gO x σ=some (false,fi):=if_pos ⟨rfl,rfl⟩;have e2:(me (me (Rc.iter C.K C.Φ [] dG (lU C.Φ) 2) y fi (false,lV)) x σ (false,fi)).gO y fi=some (false,lV):=(if_neg fun z=>c z.2).trans (if_pos ⟨rfl,rfl⟩);show Option.bind (Option.bind ((me (me (Rc.iter C.K C.Φ [] dG (lU C.Φ) 2) y fi (false,lV)) x σ (false,fi)).gO x σ) _) _=_;refine eL e1 ?_;show Option.bind (Option.bind ((me (me (Rc.iter C.K C.Φ [] dG (lU C.Φ) 2) y fi (false,lV)) x σ (false,fi)).gO y fi) _) _=_;refine eL e2 ?_;rfl
theorem iD.nm(G:Good C)(f:σ.sc.names.lookup n=some .local)(c:σ.loc.lookup n=some a)(hd:(n=="__debug__")=false):iD C (.Name n p) σ a σ:=fun F Ω H=>by
 refine((AM G 1).ev F Ω (.Name n p) Ω .refl σ H).of (?_:_=some (a,σ));show(nameOf C.K n σ).map _=_;unfold nameOf;refine eL (hd ..) (eL f ?_);show(σ.loc.lookup n).map _=_;refine eL c ?_;rfl
theorem iD.rev(G:Good C)(ho:iD C e σ (.obj d) σ)(hd:σ.obj[d]?=some (.list xs))(g:(Rc.iter C.K C.Φ [] dG (lU C.Φ) 5).ev st σ=some (.lf (.int (-1)),σ))(c:xs.length<=1000)(f:st≠e):
  iD C (.Subscript e (.Slice none none (some st) p1) p) σ (.obj σ.obj.length) ⟨σ.sc,σ.loc,σ.obj++[.list xs.reverse],σ.dep⟩:=fun F Ω H=>by
 have j:=sP G (mG (AM G 5) ho);refine(j.ev F Ω (.Subscript e (.Slice none none (some st) p1) p) Ω .refl σ H).of (?_:_=some (.obj σ.obj.length,_));have e1:(hook (Rc.iter C.K C.Φ [] dG (lU C.Φ) 5) e σ (.obj d,σ)).ev e σ=some (.obj d,σ):=if_pos ⟨rfl,rfl⟩;have e2:(hook (Rc.iter C.K C.Φ [] dG (lU C.Φ) 5) e σ (.obj d,σ)).ev st σ=some (.lf (.int (-1)),σ):=(if_neg fun z=>f z.1).trans g;show Option.bind ((hook (Rc.iter C.K C.Φ [] dG (lU C.Φ) 5) e σ (.obj d,σ)).ev e σ) _=_;refine eL e1 ?_;show Option.bind ((hook (Rc.iter C.K C.Φ [] dG (lU C.Φ) 5) e σ (.obj d,σ)).ev st σ) _=_;refine eL e2 ?_;show(oB C.K σ (.obj d)).bind (fun xs=>gN xs.length (gN (oK xs).length (new (.list (oK xs)))) σ)=_;have z:oB C.K σ (.obj d)=some xs:=by
  show Gl σ d=_;unfold Gl;exact eL (hd ..) rfl
 refine eL z ?_;show gN xs.length (gN (oK xs).length (new (.list (oK xs)))) σ=_;refine eL (Mf ..) ?_;have ok:∀ {k:Nat} {i:I AV},k<=1000->gN k i σ=i σ:=fun {k i} h=>by
  unfold gN gd;refine eL (bo (show k<=big from ag h (by decide))) ?_;rfl
 refine eL (ok c) (eL (ok (by exact eL length_reverse c)) ?_);rfl
theorem fx.ne(G:Good C)(f:iD C l σ a σ)(hr:iD C r σ b fi)(hd:dG C.Φ fi true a b=some true)(g:iB a=none)(hb:behindInMarks .NotEq r=false)(c:r≠l):fx C (.Compare l [.NotEq] [r] p) σ false fi:=fun F Ω H=>by
 refine((sP G (mG (mG (AM G 2) hr) f)).gO F Ω (.Compare l [.NotEq] [r] p) Ω .refl σ H).of (?_:_=some (false,fi));have e1:(hook (hook (Rc.iter C.K C.Φ [] dG (lU C.Φ) 2) r σ (b,fi)) l σ (a,σ)).ev l σ=some (a,σ):=if_pos ⟨rfl,rfl⟩;have e2:(hook (hook (Rc.iter C.K C.Φ [] dG (lU C.Φ) 2) r σ (b,fi)) l σ (a,σ)).ev r σ=some (b,fi):=(if_neg fun z=>c z.1).trans (if_pos ⟨rfl,rfl⟩);show(gd (!behindInMarks .NotEq r) _:I Bool) σ=_;refine eL hb ?_;show Option.bind ((hook (hook (Rc.iter C.K C.Φ [] dG (lU C.Φ) 2) r σ (b,fi)) l σ (a,σ)).ev l σ) _=_;refine eL e1 ?_;show Option.bind ((hook (hook (Rc.iter C.K C.Φ [] dG (lU C.Φ) 2) r σ (b,fi)) l σ (a,σ)).ev r σ) _=_;refine eL e2 ?_;show Option.bind (Option.map _ (dg (iB a) (fun _=>CW C.Φ a b) (dG C.Φ fi true a b))) _=_;refine eL g ?_;show Option.bind (Option.map _ (dG C.Φ fi true a b)) _=_;refine eL (hd ..) ?_;rfl
theorem fx.YB{c:Bool}(h:∀F Ω,Hr C F Ω σ->∃j g,σ.obj.length=g.length/\nh C Ω F.L j/\(∀(i:Nat) ob,g[i]?=some ob->gz C Ω (Ω.ρ i).1 (Ω.ρ i).2 ob)/\fx C x ⟨σ.sc,j,g,σ.dep⟩ c ⟨σ.sc,j,g,σ.dep⟩/\
   Zn C Ω σ.loc j/\∀(i:Nat) o,σ.obj[i]?=some o->∃o',g[i]?=some o'/\Bp C Ω o o'):fx C x σ c σ:=fun F Ω H=>by
 exact YI (h F Ω H) fun j g e1 e2 y t u s=>(nu (t F Ω (H.vF rfl rfl e1 e2 y)) fun A f m k q=>(.in m (k.vF rfl rfl e1.symm (u _ _ m.mo k.rel.fr) fun i ob z=>bW (s i ob z) fun o' v w=>w _ _ _ m.mo (k.rel.ob i o' v)) q))
end
end
noncomputable def d9:Expr:=.Name "got" ⟨1609,7,1609,10⟩
noncomputable def u3:Expr:=.Name "due" ⟨1609,14,1609,17⟩
noncomputable def n4:Expr:=.UnaryOp .USub (.Constant (.int 1) 0 ⟨1609,21,1609,22⟩) ⟨1609,20,1609,22⟩
def i7:Expr:=.Subscript u3 (.Slice none none (some n4) ⟨1609,18,1609,22⟩) ⟨1609,14,1609,23⟩
noncomputable def WL:Expr:=.Compare (.Call (.Attribute (.Attribute (.Name "reader" ⟨1609,27,1609,33⟩) "stream" ⟨1609,27,1609,40⟩) "position" ⟨1609,27,1609,49⟩) [] [] ⟨1609,27,1609,51⟩) [.NotEq] [.Call (.Name "_law_place" ⟨1609,55,1609,65⟩) [.Name "text" ⟨1609,66,1609,70⟩] [] ⟨1609,55,1609,71⟩] ⟨1609,27,1609,71⟩
def PA(P:Params):List Stmt:=(MY (eA (bodyOf (KF P) 817) 9)).b
theorem LY(P):(bodyOf (KF P) 817).drop 8=[.If (.BoolOp .Or [.Compare d9 [.NotEq] [i7] ⟨1609,7,1609,23⟩,WL] ⟨1609,7,1609,71⟩) [.Return (some (.Constant (.bool false) 0 ⟨1610,15,1610,20⟩)) ⟨1610,8,1610,20⟩] [] ⟨1609,4,1610,20⟩,.For (.Name "token" ⟨1611,8,1611,13⟩) (.Name "got" ⟨1611,17,1611,20⟩) (PA P) [] ⟨1611,4,1613,24⟩,.Return (some (.Constant (.bool true) 0 ⟨1614,11,1614,15⟩)) ⟨1614,4,1614,15⟩]:=by kernel_rfl
theorem yM(P):((X2 P).Dm.names.lookup ("got" : Str)=some .local/\(X2 P).Dm.names.lookup ("due" : Str)=some .local)/\(X2 P).Dm.names.lookup ("token" : Str)=some .local:=⟨⟨by kernel_rfl,by kernel_rfl⟩,by kernel_rfl⟩
theorem Sq(P)(σ):(Rc.iter (KF P) [] [] dG (lU []) 5).ev n4 σ=some (.lf (.int (-1)),σ):=by kernel_rfl
noncomputable def z6:List Fact:=[⟨.eq,[.sym 8,.sym 8],.bool true⟩,⟨.eq,[.sym 9,.sym 9],.bool true⟩]
noncomputable def d7:Fl:=.ret (.tup [.lf (.sym 8),.lf (.sym 9)])
def D3:List Ent:=[⟨119,nT [],four 1,cz 0 (cq 0),39,d7,cz 0 (cq 0),none⟩,⟨812,[("text",.lf (.sym 0))],[],[],39,d7,[],none⟩]
abbrev Xu(st:Addr)(cur:AV)(a:Option bQ)(r:List AO):List AO:=Th st cur a::cz 1 (cq 0)++r
theorem Rx(P)(α)(rest)(st)(cur)(f)(a b c d e):([[a,b,c],[a,b,c,d,e]].map fun r=>(R3 P z6 D3).gO WL ((X2 P).su (("reader",.obj 0)::("text",.lf (.sym 0))::cm α rest) (Xu st cur f r))) =
  [[a,b,c],[a,b,c,d,e]].map fun r=>some (false,(X2 P).su (("reader",.obj 0)::("text",.lf (.sym 0))::cm α rest) (Xu st cur f r)):=by kernel_rfl
theorem Se(P)(α)(rest)(obj):(R3 P [⟨.len,[.sym 0],.sym 1⟩] []).fL (PA P) ((X2 P).su (("token",.lf (.sym 0))::cm α rest) obj)=some (.next,(X2 P).su (("token",.lf (.sym 0))::cm α rest) obj):=by kernel_rfl
abbrev SF(α:Nat->Value)(g:Tg):AO:=.dict (hide (fun n=>!(n=="selfClosing")) α (bif g.st then[("type",.lf .none),("name",.lf .none),("data",.lf .none),("selfClosing",.lf (.bool false)),("selfClosingAcknowledged",.lf .none)] else[("type",.lf .none),("name",.lf .none),("data",.lf .none),("selfClosing",.lf (.bool false))]))
theorem Qq(P)(α)(β)(rest):([true,false].map fun s=>(R3 P [] []).fL (PA P) ((X2 P).su (("token",.obj 0)::cm α rest) [SF β ⟨s,[]⟩]))=[true,false].map fun s=>some (.next,(X2 P).su (("token",.obj 0)::cm α rest) [SF β ⟨s,[]⟩]):=by kernel_rfl
def uQ(k:Nat)(B:List AO)(x:AV)(y:Itm):Prop:=match y with
 |.tx t=>x=.lf (tx t)
 |.tag g=>∃j i,x=.obj j/\(k<=j/\k<=i)/\B[j]?=some (AQ g i)/\B[i]?=some (NC g)
section
variable{st:Addr}{x:Gi}
theorem HV{x:bQ}(h:CW [] (.lf x) (.lf x)=some true):eqT [] σ (n+1) (.lf x) (.lf x)=true:=by
 show dg (CW [] (.lf x) (.lf x)) _ _=true;refine eL h ?_;rfl
theorem FX:CW [] (.lf (tx l)) (.lf (tx l))=some true:=by
 show ff (ew .eq [tx l,tx l])=_;refine eL (Du) ?_;rfl
def D4(g:Tg)(i:Nat):List (Str×AV):=match AQ g i with
 |.dict es=>es
 |_=>[]
theorem yy(h:σ.obj[j]?=some (AQ g i)):listAt σ j=none/\dictAt σ j=some (D4 g i):=by
 unfold listAt dictAt;refine eL h ?_;clear h;rcases g with⟨_|_,_⟩<;>exact⟨rfl,rfl⟩
theorem Qc(c:σ.obj[j]?=some (AQ g i))(k:σ.obj[b]?=some (AQ g a))(hi:σ.obj[i]?=some (NC g))(e:σ.obj[a]?=some (NC g))(f:(j==b)=false)(h:(i==a)=false):eqT [] σ 19 (.obj j) (.obj b)=true:=by
 have d:eqT [] σ 18 (.obj i) (.obj a)=true:=by
  show(!(i==a)&&dg (listAt σ i) (fun xs=>dg (listAt σ a) (fun ys=>xs.isEmpty&&ys.isEmpty) false) (dg (dictAt σ i) (fun es=>dg (dictAt σ a) (zZ (eqT [] σ 17) es) false) false))=true;unfold listAt dictAt;refine eL h (eL hi (eL e ?_));clear c k hi e f h;rcases g with⟨_|_,_⟩<;>rfl
 have n:eqT [] σ 18 (.lf (tx g.nm)) (.lf (tx g.nm))=true:=HV FX;show(!(j==b)&&dg (listAt σ j) (fun xs=>dg (listAt σ b) (fun ys=>xs.isEmpty&&ys.isEmpty) false) (dg (dictAt σ j) (fun es=>dg (dictAt σ b) (zZ (eqT [] σ 18) es) false) false))=true;refine eL f (eL ((yy c).1) (eL ((yy c).2) (eL ((yy k).2) ?_)));clear c k hi e f h;rcases g with⟨_|_,nm⟩
 .show (true&&(eqT [] σ 18 (.lf (.int 4)) (.lf (.int 4))&&(eqT [] σ 18 (.lf (tx nm)) (.lf (tx nm))&&(eqT [] σ 18 (.obj i) (.obj a)&&(eqT [] σ 18 (.lf (.bool false)) (.lf (.bool false))&&true)))))=true;refine eL (n ..) (eL d ?_);rfl
 .show (true&&(eqT [] σ 18 (.lf (.int 3)) (.lf (.int 3))&&(eqT [] σ 18 (.lf (tx nm)) (.lf (tx nm))&&(eqT [] σ 18 (.obj i) (.obj a)&&(eqT [] σ 18 (.lf (.bool false)) (.lf (.bool false))&&(eqT [] σ 18 (.lf (.bool false)) (.lf (.bool false))&&true))))))=true;refine eL (n ..) (eL d ?_);rfl
theorem Rn(l:F2 (uQ k σ.obj) xs L)(f:F2 (jK d B) ys L)(e:∀(i:Nat) o,B[i]?=some o->i<k/\σ.obj[i]?=some o):all2 (eqT [] σ 19) xs ys=true:=by
 have key:∀ {x y z},uQ k σ.obj x z->jK d B y z->eqT [] σ 19 x y=true:=fun {x y z} a b=>by
  induction z with
  |tx t=>
   obtain rfl:x=.lf (tx t):=a;obtain rfl:y=.lf (tx t):=b;exact HV FX
  |tag g=>
   obtain⟨j,i,rfl,⟨q,v⟩,u,r⟩:=a;refine rm b fun A w n _ p m=>?_;subst n
   have c:=e _ _ p;have h:=e _ _ m;exact Qc u c.2 r h.2 (aN.mpr (bC (aS c.1 q))) (aN.mpr (bC (aS h.1 v)))
 unfold all2;refine eL l.len (eL f.len (eL (bk ..) (eL (Bool.true_and ..) ?_)));induction l generalizing ys with
 |nil=>rfl
 |cons a _ s=>
  cases f with
  |cons b t=>
   show(eqT [] σ 19 _ _&&_)=true;exact eL (key a b) (eL (Bool.true_and ..) (s t))
theorem Pr:∀ {tg} {p i},tg[i]?=some g->(tJ p tg)[2*i]?=some (AQ g (p+2*i+1))/\(tJ p tg)[2*i+1]?=some (NC g):=by
 intro tg;induction tg with
 |nil=>exact fun h=>cX h
 |cons t r a=>
  intro p i h;have e:tJ p (t::r)=AQ t (p+1)::NC t::tJ (p+2) r:=by
   show rl t (p+1)++_=_;unfold rl AQ NC;clear h a;cases t.st<;>rfl
  refine eL e ?_;clear e;rcases i with _|i
  .clear a;cases h;exact⟨rfl,rfl⟩
  .exact eR (by exact cC 0x12FC9CDC91A0C9CD1ACA0 tt:p+2+2*i+1=p+2*(i+1)+1) (a h)
theorem QJ(f:x.ok tg.length 9)(d:∀i,x=.cu i->i=7/\p≠none):uQ D.length (cV D bT tg++eI (bZ D tg) (cO st (cU p) t S)++O) (x.av D.length (bZ D tg)) (x.look tg p):=by
 rcases x with a|i|i
 .rfl
 .have e:=ao (f:i<tg.length);have at_:∀ {q o},(tJ (D.length+1) tg)[q]?=some o->(cV D bT tg++eI (bZ D tg) (cO st (cU p) t S)++O)[D.length+1+q]?=some o:=fun {q o} h=>by
   have lt:=(au.mp h).1;rw [kM] at lt;refine eL (aw ..) (eL (aJ (by refine eL ((cB) ..) ?_;exact dN 0x11FCD1AC92C0C925FD1A0 tt lt)) ?_);exact eL (aI (by exact cC 0x10FC1C900 tt)) (eL (by exact dN 0x12FC9206FC2C91C10 tt (aq (cC 0x10FC1C900 tt)):D.length+1+q-D.length=q+1) h)
  have k:=Pr (p:=D.length+1) e;show uQ _ _ _ (.tag ((tg[i]?).getD _));exact eL e (dJ _ _ ⟨rfl,⟨by exact cC 0x10FCD1AC900 tt,by exact cC 0x10FC9CD1AC900 tt⟩,at_ k.1,by have:=at_ k.2;rw [<-Nat.add_assoc] at this;exact this⟩)
 .refine bY (d i rfl) fun c hp=>?_;subst c
  rcases p with _|⟨s,nm⟩
  .exact absurd rfl hp
  .have at_:∀ {q o},(cO st (cU (some ⟨s,nm⟩)) t S)[q]?=some o->(cV D bT tg++eI (bZ D tg) (cO st (cU (some ⟨s,nm⟩)) t S)++O)[bZ D tg+q]?=some (o.ed (iL (bZ D tg))):=fun {q o} h=>by
    have b:=jr (D:=D) (bT:=bT) (tg:=tg) (O:=cO st (cU (some ⟨s,nm⟩)) t S) (j:=q);rw [h] at b;exact ic b
   induction s
   .exact dJ _ _ ⟨rfl,⟨by unfold bZ;exact cC 0x10FC7B8CD1AC900 tt,by unfold bZ;lia⟩,at_ (q:=7) rfl,at_ (q:=8) rfl⟩
   .exact dJ _ _ ⟨rfl,⟨by unfold bZ;exact cC 0x10FC7B8CD1AC900 tt,by unfold bZ;lia⟩,at_ (q:=7) rfl,at_ (q:=8) rfl⟩
end
abbrev WW(m:Nat)(raw:List Nat):List (Str×AV):=[("reader",.obj m),("text",.lf (tx raw))]
abbrev PS(raw:List Nat)(n:Nat)(ck:List Nat)(k:Nat)(dn:List Nat)(a:bQ)(T:List Nat):List bQ:=sL raw n ck k dn a++[int ((lc T).1+1),int (lc T).2]
section
variable{t:Option (List Nat)}{st:Addr}{c:Option Tg}{S:Sx}{g:Tg}{i j m k n d:Nat}{x:AV}{p:Option Tg}
theorem Ky:(Th st (cU p).av (t.map tx)).sub θ=Th st (cU p).av (t.map tx):=by
 rcases p with _|⟨_|_,_⟩<;>rcases t with _|_<;>rfl
variable(G:Good (cx P Z))
include G
theorem Bz(R:mP raw)(hT:T.length<=big)(l:T=cf raw)(h:At raw T T.length S)(α)(rest)(a):
  fx (cx P Z) WL ((X2 P).su (WW 0 raw++cm α rest) (cO st (cU p) (t.map tx) S++[.list (cp a)])) false ((X2 P).su (WW 0 raw++cm α rest) (cO st (cU p) (t.map tx) S++[.list (cp a)])):=by
 have q:=VW G R hT h (show 21<=39 by decide);rw [take_length] at q;have pl:=KS G R.len;rw [<-l] at pl;refine TF h fun dn ck n k b w v u _=>?_;subst v
 have lf:(PS raw n ck k dn b T).all isLit=true:=by
  show(true&&(true&&(true&&(true&&(true&&(true&&(true&&(isLit b&&true))))))))=true;refine eL u.lit ?_;rfl
 have e:=bz.mp (Rx P α rest st (cU p).av (t.map tx) (.list []) (.list []) (bif (cU p).os.isEmpty then .list (cp a) else((cU p).os[0]?).getD (.list [])) (((cU p).os[1]?).getD (.list [])) (.list (cp a)));have z:=fun r hr=>tw G (S:=gK lf (bP qv (bP qv bR)) (cg (eO (lL lf) rfl rfl rfl rfl rfl q) (cg (eO (lL lf) rfl rfl rfl rfl rfl pl) bU))) (e r hr)
 have s:∀r,St.sub (cT (PS raw n ck k dn b T)) ((X2 P).su (("reader",.obj 0)::("text",.lf (.sym 0))::cm α rest) (Xu st (cU p).av (t.map tx) r))=(X2 P).su (WW 0 raw++cm α rest) (Th st (cU p).av (t.map tx)::cz 1 (sx raw n ck k dn b)++ip (cT (PS raw n ck k dn b T)) r):=fun r=>by
  show(⟨_,("reader",_)::("text",_)::cY _ (cm α rest),(Th st (cU p).av (t.map tx)).sub _::ip _ (cz 1 (cq 0)++r),_⟩:St)=_;refine eL dC (eL Ky ?_);rfl
 have f:(AO.list (cp a)).sub (cT (PS raw n ck k dn b T))=.list (cp a):=by
  show AO.list (subs _ (cp a))=_;exact eL BN rfl
 clear e lf u pl q R hT l h;rcases p with _|⟨_|_,nm⟩
 .have z:=z _ (.head _);rw [s] at z;have o:ip (cT (PS raw n ck k dn b T)) [.list [],.list [],.list (cp a)]=[.list [],.list [],.list (cp a)]:=by
   show[AO.list [],.list [],(AO.list (cp a)).sub _]=_;exact eL f rfl
  have z:fx _ _ ((X2 P).su _ (_++ip _ [.list [],.list [],.list (cp a)])) _ ((X2 P).su _ (_++ip _ [.list [],.list [],.list (cp a)])):=z;rw [o] at z;exact z
 .have z:=z _ (.tail _ (.head _));rw [s] at z;have o:ip (cT (PS raw n ck k dn b T)) [.list [],.list [],om (tx nm),.list [],.list (cp a)]=[.list [],.list [],om (tx nm),.list [],.list (cp a)]:=by
   show[AO.list [],.list [],om (tx nm),.list [],(AO.list (cp a)).sub _]=_;exact eL f rfl
  have z:fx _ _ ((X2 P).su _ (_++ip _ [.list [],.list [],om (tx nm),.list [],.list (cp a)])) _ ((X2 P).su _ (_++ip _ [.list [],.list [],om (tx nm),.list [],.list (cp a)])):=z;rw [o] at z;exact z
 .have z:=z _ (.tail _ (.head _));rw [s] at z;have o:ip (cT (PS raw n ck k dn b T)) [.list [],.list [],qF (tx nm),.dict [],.list (cp a)]=[.list [],.list [],qF (tx nm),.dict [],.list (cp a)]:=by
   show[AO.list [],.list [],qF (tx nm),.dict [],(AO.list (cp a)).sub _]=_;exact eL f rfl
  have z:fx _ _ ((X2 P).su _ (_++ip _ [.list [],.list [],qF (tx nm),.dict [],.list (cp a)])) _ ((X2 P).su _ (_++ip _ [.list [],.list [],qF (tx nm),.dict [],.list (cp a)])):=z;rw [o] at z;exact z
theorem JN(R:mP raw)(hT:T.length<=big)(u:T=cf raw)(v:At raw T T.length S)(hr:loc.lookup ("reader" : Str)=some (.obj F.length))(s:loc.lookup ("text" : Str)=some (.lf (tx raw))):
  fx (cx P Z) WL ((X2 P).su loc (F++eI F.length (cO st (cU p) (t.map tx) S)++[.list rev])) false ((X2 P).su loc (F++eI F.length (cO st (cU p) (t.map tx) S)++[.list rev])):=fx.YB fun Fm Ω H=>by
 have l:∀x,loc.lookup x=(WW F.length raw++loc).lookup x:=fun x=>by
  show _=List.lookup x (_::_::loc);refine eL aY (eL aY ?_);rcases h:x=="reader" with _|_
  .rcases h:x=="text" with _|_
   .rfl
   .exact eL (aC.mp h) s
  .exact eL (aC.mp h) hr
 refine bW (uL H.rel.fr l) fun α B A=>?_;obtain⟨a,_,r,w⟩:=sC (show gz (cx P Z) Ω _ _ (.list (rev++[])) by
  have k:=H.rel.ob (F++eI F.length (cO st (cU p) (t.map tx) S)).length (.list rev) (by
   show(F++eI F.length (cO st (cU p) (t.map tx) S)++[.list rev])[_]?=_;exact nA _ _)
  exact eL (aF ..) k)
 have f:=w [];rw [aF] at r;rw [aF,aF] at f;have b:∀ {i} {o y},(F++eI F.length (cO st (cU p) (t.map tx) S)++[y])[i]?=some o->(F++eI F.length (cO st (cU p) (t.map tx) S))[i]?=some o\/(i=(F++eI F.length (cO st (cU p) (t.map tx) S)).length/\o=y):=fun {i o y} h=>by
  rcases aV i (F++eI F.length (cO st (cU p) (t.map tx) S)).length with q|q
  .exact .inl (eR (aJ q) h)
  .rw [aI q] at h;rcases z:i-(F++eI F.length (cO st (cU p) (t.map tx) S)).length with _|_
   .rw [z] at h;cases h;exact .inr ⟨Nat.le_antisymm (Nat.sub_eq_zero_iff_le.mp z) q,rfl⟩
   .rw [z] at h;exact cX h
 refine dJ _ (F++eI F.length (cO st (cU p) (t.map tx) S)++[.list (cp a)]) ⟨by exact eL aa ((aa (bs:=[AO.list (cp a)])).symm),B,fun i ob h=>?_,?_,A loc _ l fun _ h=>h,fun i o h=>?_⟩
 .rcases b h with h|⟨rfl,rfl⟩
  .exact H.rel.ob i ob (ic h)
  .exact r
 .have z:=fx.sh (F:=F) (Bz (st:=st) (p:=p) (t:=t) G R hT u v α loc a);have e:eI F.length (cO st (cU p) (t.map tx) S++[.list (cp a)])=eI F.length (cO st (cU p) (t.map tx) S)++[.list (cp a)]:=by
   refine aO.trans ?_;show _++[AO.list (dE _ (cp a))]=_;exact eL ny rfl
  rw [e,pX,vB,<-aw] at z;exact z
 .rcases b h with h|⟨rfl,rfl⟩
  .exact ⟨o,ic h,fun _ _ _ _ h=>h⟩
  .exact ⟨_,nA _ _,f⟩
theorem Ka(u:(∃a,x=.lf (tx a))\/∃j g i,x=.obj j/\obj[j]?=some (AQ g i))(loc:List (Str×AV)):dz (cx P Z) (PA P) ((X2 P).su (put "token" x loc) obj) .next ((X2 P).su (put "token" x loc) obj):=by
 have f:∀y,(put "token" x loc).lookup y=(([("token",x)]:List (Str×AV))++loc).lookup y:=fun y=>by
  refine eL (ef ..) (eL aY ?_);by_cases h:y="token"
  .exact eL (if_pos h) (eL (aC.mpr h) rfl)
  .exact eL (if_neg h) (eL (aN.mpr h) rfl)
 rcases u with⟨a,rfl⟩|⟨j,g,i,rfl,q⟩
 .have t:=dz.Mk (C:=cx P Z) (b:=PA P) (fl:=.next) (N:=[]) (B:=obj) (B':=obj) (at_:=[]) (nd:=[("token",.lf (tx a))]) (rh:=[("token",.lf (tx a))]) (rest:=loc) (dp:=(X2 P).d+3) (sc:=(X2 P).Dm) (fun i j h=>cX (getElem?_nil.symm.trans h))
   (fun F Ω H=>⟨[],[],rfl,rfl,fun i j o h=>cX (getElem?_nil.symm.trans h),fun i j o h=>cX (getElem?_nil.symm.trans h),fun α=>by
    have z:=dY G (gK (L:=[tx a,int a.length]) rfl (bP kY bR) bU) (Se P α loc []);have e:St.sub (cT [tx a,int a.length]) ((X2 P).su (("token",.lf (.sym 0))::cm α loc) [])=(X2 P).su (("token",.lf (tx a))::cm α loc) []:=by
     show(⟨_,("token",_)::cY _ (cm α loc),_,_⟩:St)=_;refine eL dC ?_;rfl
    rw [e] at z;exact z⟩) f f (fun _ h=>h) (fun j h=>iS h) rfl (fun _ _=>rfl) (.inl rfl)
  rw [map_nil,aF] at t;exact t
 .have t:=dz.Mk (C:=cx P Z) (b:=PA P) (fl:=.next) (N:=[]) (B:=obj) (B':=obj) (at_:=[j]) (nd:=[("token",.obj 0)]) (rh:=[("token",.obj 0)]) (rest:=loc) (dp:=(X2 P).d+3) (sc:=(X2 P).Dm) (loc:=put "token" (.obj j) loc) (eH:=put "token" (.obj j) loc) (fun i k h=>by
    rcases i with _|i
    .cases h;show List.findIdx? _ [j]=_;refine eL findIdx?_cons ?_;exact eL (bk ..) rfl
    .exact cX h)
   (fun F Ω H=>by
    obtain⟨β,r,l⟩:=jc (fun n=>!(n=="selfClosing")) (show gz (cx P Z) Ω _ _ (.dict (bif g.st then[("type",.lf (.int 3)),("name",.lf (tx g.nm)),("data",.obj i),("selfClosing",.lf (.bool false)),("selfClosingAcknowledged",.lf (.bool false))] else[("type",.lf (.int 4)),("name",.lf (tx g.nm)),("data",.obj i),("selfClosing",.lf (.bool false))])) by
     rcases g with⟨_|_,nm⟩<;>exact(H.rel.ob j _ q))
    refine dJ ([SF β ⟨g.st,[]⟩]) ([SF β ⟨g.st,[]⟩]) ⟨rfl,rfl,ku ?_,ku ?_,fun α=>?_⟩
    .clear l H f loc;rcases g with⟨_|_,nm⟩<;>exact r
    .clear r H f loc;rcases g with⟨_|_,nm⟩<;>exact⟨_,q,l⟩
    .have e:=bz.mp (Qq P α β loc) g.st (by rcases g with⟨_|_,nm⟩<;>first|exact .head _|exact .tail _ (.head _));have z:=dY G (gK (L:=[]) rfl bR bU) e;have s:St.sub (cT []) ((X2 P).su (("token",.obj 0)::cm α loc) [SF β ⟨g.st,[]⟩])=(X2 P).su (("token",.obj 0)::cm α loc) [SF β ⟨g.st,[]⟩]:=by
      show(⟨_,("token",_)::cY _ (cm α loc),_,_⟩:St)=_;refine eL dC ?_;clear z e r l H f;rcases g with⟨_|_,nm⟩<;>rfl
     rw [s] at z;exact z) f f (fun _ h=>h) (fun k h=>aB.mp h▸((au.mp q).1)) rfl (fun _ _=>rfl) (.inl rfl)
  rw [map_nil,aF] at t;exact t
end
theorem F2.Zt{R:α->β->Prop}:∀ {l:List c},(∀x∈l,R (f x) (g x))->F2 R (l.map f) (l.map g):=by
 intro l;induction l with
 |nil=>exact fun _=>.nil
 |cons x l a=>exact fun h=>.cons (h x (.head _)) (a fun y b=>h y (.tail _ b))
section
theorem my(h:σ.obj[i]?=some (.list xs)):listAt σ i=some xs:=by unfold listAt;exact eL h rfl
theorem KD{σ:St}(b:σ.obj[g]?=some (.list xs))(c:σ.obj[n]?=some (.list a))(ne:(g==n)=false)(h:all2 (eqT [] σ 19) xs a=true):dG [] σ true (.obj g) (.obj n)=some true:=by
 show(bif !(g==n)&&dg (listAt σ g) (fun xs=>dg (listAt σ n) (all2 (eqT [] σ 19) xs) false) false then some true else none)=_;refine eL ne (eL (my b) ?_);show(bif dg (listAt σ n) (all2 (eqT [] σ 19) xs) false then some true else none)=_;refine eL (my c) ?_;show(bif all2 (eqT [] σ 19) xs a then some true else none)=_;refine eL h ?_;rfl
theorem Wz(G:Good (cx P Z)){py:Pos}(hg:b[g]?=some (.list xs))(c:∀x∈xs,(∃a,x=.lf (tx a))\/∃j g i,x=.obj j/\b[j]?=some (AQ g i)):∀r done,xs=done++r->∀loc,∃eH,Dc (cx P Z) (.Name "token" py) (PA P) r.length (.live g done.length) ((X2 P).su loc b) .next ((X2 P).su eH b):=by
 intro r;induction r with
 |nil=>
  intro done e loc;refine⟨loc,.stop ?_ rfl rfl⟩;show(listAt ((X2 P).su loc b) g).map _=_;refine eL (my (hg)) ?_;show some ((xs[done.length]?).map _)=_;refine eL e (eL (aF ..) (eL (aT (ah _)) ?_));rfl
 |cons x r d=>
  intro done e loc;obtain⟨eH,h⟩:=d (done++[x]) (by refine eL e (eL (aw ..) ?_);rfl) (put "token" x loc);rw [aa] at h;refine⟨eH,.turn ?_ (.name (yM P).2) (Ka G (c x (by exact eL e (mem_append_right _ (.head _)))) loc) (.inl rfl) h⟩;show(listAt ((X2 P).su loc b) g).map _=_;refine eL (my (hg)) ?_;show some ((xs[done.length]?).map _)=_;refine eL e (eL (aI (ah _)) (eL (sub_self ..) ?_));rfl
theorem By(h:x≠y):(tn y u l).lookup x=l.lookup x:=by
 induction u with
 |none=>rfl
 |some v=>exact(ef ..).trans (if_neg h)
theorem Jg(G:Good (cx P Z))(loc)(obj):iD (cx P Z) (.Constant (.bool true) 0 ⟨1614,11,1614,15⟩) ((X2 P).su loc obj) (.lf (.bool true)) ((X2 P).su loc obj):=xt G (by kernel_rfl)
theorem PC(G:Good (cx P Z))(R0:mP raw)(W:Wk P){n:AV}(hr:W.raw=raw)(hT:W.T=cf raw)(hF:W.Fin=Ke P Z o ns)(hp:W.pre=dQ d (tx raw) q e n c w a)(hD:nW d W.D D)(H:W.D[0]?=some (.dy o (cQ ns))):An W D.reverse:=by
 intro st p t bT tg u S N U L hlen O;refine bW hD.ex fun b hd E=>(eL hF ?_)
 show cG (cx P Z) ((bodyOf (KF P) 817).drop 8) ((X2 P).su (tn (X2 P).y u (fS W.pre W.D.length (bZ W.D tg))) (cV W.D bT tg++eI (bZ W.D tg) (cO st (cU p) (t.map tx) S))) _ _;refine eL (Ag ..) ?_;have f:∀x:Str,x≠"token"->(tn "token" u (fS W.pre W.D.length (bZ W.D tg))).lookup x=(fS W.pre W.D.length (bZ W.D tg)).lookup x:=fun x h=>By h
 have r:=(f "got" (by decide)).trans (show _=some (.obj W.D.length) by refine eL cy (eL W.hp.1 ?_);rfl);have A:=(f "reader" (by decide)).trans (show _=some (.obj (bZ W.D tg)) by refine eL cy (eL W.hp.2.2 ?_);rfl);have C:=(f "due" (by decide)).trans (show _=some (.obj d) by refine eL cy (eL hp ?_);rfl);have lt:=(f "text" (by decide)).trans (show _=some (.lf (tx raw)) by refine eL cy (eL hp ?_);rfl);generalize tn "token" u (fS W.pre W.D.length (bZ W.D tg))=loc at r A C lt;have v:∀ {i} {o} {R},W.D[i]?=some o->(cV W.D bT tg++R)[i]?=some o:=fun h=>ic (by exact ic h)
 have hg:=mr (D:=W.D) (bT:=bT) (tg:=tg) (S:=eI (bZ W.D tg) (cO st (cU p) (t.map tx) S));have got:∀x∈bT,uQ W.D.length (cV W.D bT tg++eI (bZ W.D tg) (cO st (cU p) (t.map tx) S)++[.list b.reverse]) (x.av W.D.length (bZ W.D tg)) (x.look tg p):=fun x m=>QJ (U x m) fun i e=>L i (e▸m)
 have len:=cB (D:=W.D) (bT:=bT) (tg:=tg);generalize bZ W.D tg=M at A hg got len ⊢;subst len;have B:(cV W.D bT tg++eI (cV W.D bT tg).length (cO st (cU p) (t.map tx) S)++[.list b.reverse])[W.D.length]?=_:=ic hg;refine eL (LY ..) ?_;have t1:fx (cx P Z) (.Compare d9 [.NotEq] [i7] ⟨1609,7,1609,23⟩) ((X2 P).su loc (cV W.D bT tg++eI (cV W.D bT tg).length (cO st (cU p) (t.map tx) S))) false ((X2 P).su loc (cV W.D bT tg++eI (cV W.D bT tg).length (cO st (cU p) (t.map tx) S)++[.list b.reverse])):=by
  refine fx.ne G (iD.nm G (yM P).1.1 r (by decide)) (iD.rev G (iD.nm G (yM P).1.2 C (by decide)) (v hd) (Sq P _) (eL E.len hD.len) fun h=>nomatch h) (KD B (nA _ _) (aN.mpr fun z=>?_) (Rn ?_ E.reverse fun i o h=>⟨(au.mp h).1,ic (v h)⟩)) rfl rfl fun h=>nomatch h
  .have l:=(au.mp hg).1;exact lt_irrefl _ (z▸l)
  .exact eR N (F2.Zt got)
 have F:=JN (rev:=b.reverse) (t:=t) (st:=st) (p:=p) G R0 (ag W.hT (by decide)) hT (hr▸O) A lt;have s1:=lA.YL (p:=⟨1609,7,1609,71⟩) (q:=⟨1609,4,1610,20⟩) (t:=[.Return (some (.Constant (.bool false) 0 ⟨1610,15,1610,20⟩)) ⟨1610,8,1610,20⟩]) G t1 F fun z=>by
  have k:=az (fun s=>s.obj.length) z;rw [aa] at k;exact succ_ne_self _ k
 obtain⟨eH,V⟩:=Wz G B (fun x m=>by
  refine bW (bL.mp m) fun y X J=>?_;subst J
  have k:=got y X;cases z:y.look tg p with
  |tx a=>rw [z] at k;exact .inl ⟨a,k⟩
  |tag g=>rw [z] at k;obtain⟨j,i,e,_,q,_⟩:=k;exact .inr (kj j g i ⟨e,q⟩)) (bT.map (Gi.av W.D.length (cV W.D bT tg).length)) [] rfl loc
 refine cG.cons s1 (cG.cons (lA.yc rfl (yK.of G (iD.nm G (yM P).1.1 r (by decide)) ?_) V) (dz.Xf (dz.ret G (Jg G eH _)) fun i ob h=>?_))
 .show (listAt _ W.D.length).map _=_;refine eL (my B) ?_;rfl
 .rcases i with _|i
  .cases h;exact ic (v H)
  .exact cX h
end
theorem Uc(G:Good (cx P Z))(j:IC P Z)(f:ns.length<64):cG (cx P Z) (bodyOf (KF P) 817) (dh P 817 [("script",.obj 0)] [.dy o (cQ ns)] 40) (.ret (.lf (.bool true))) [.dy o (cQ ns)]:=
 Wv G j f (DS ns) fun W d q e n c w a _ k g h b _ l i=>PC G (HG ns) W k g h b l i
def La(prog:Program)(w:World)(A:Around)(s:Shared)(m:Sem Value)(r:bQ):Prop:=∀t,s.toks<=t->Lw (model prog w) A (gy s s.heap t) m r
section
variable{id:String}
theorem La.bin(j:La prog w A s (eval l env) x)(hr:La prog w A s (eval r env) y)(ho:∀v u,LR x v->LR y u->La prog w A s (binaryOp o v u) z):La prog w A s (eval (.BinOp l o r p) env) z:=fun t a Z h=>
 ai (j t a _ fun v m b lv=>ai (bK (hr m (ag a b) _ fun u f c g=>ai (wpAny_standAt (wpAny_operate' (ho v u lv g f (ag (ag a b) c) _ fun d i e k=>h d i (ag b (ag c e)) k))))))
theorem La.two(c:s.toks≠0)(e:rC (xJ o) x y=some z)(a:LR x v)(d:LR y u):La prog w A s (binaryOp o v u) z:=fun t b=>
 (Ez (fun z=>c (le_zero.mp (z▸b))) o a d).of e
theorem La.lit:La prog w A s (eval (.Constant (.int i) j p) env) (.int i):=fun _ _ _ h=>wpAny_Constant_int (h _ _ (aE _) (.int i _))
theorem Gx:∀k<9,Builtin.Int.intTooBig (((Builtin.Int.intBits 2))*((k:Nat)))=false:=by decide
theorem La.Zq(b:k<9)(a:LR (.int 2) v)(c:LR (int k) u):La prog w A s (binaryOp .Pow v u) (int (2^k)):=fun t d Z h=>by
 cases a;cases c;rcases Nat.eq_zero_or_pos k with e|e
 .subst e;exact PySem.AutoIntOps.pow_0 (by decide) (by decide) (h _ _ (aE _) (.int _ _))
 .exact PySem.AutoIntOps.pow_4 (natCast_nonneg k) (fun z=>bC e (ofNat.inj (aC.mp z))) (by decide) (by decide) (eL (Gx k b) aA) (h _ _ (aE _) (eL (Int.toNat_natCast ..) (eL ((Int.natCast_pow 2 k).symm) (.int _ _))))
theorem La.gO(h:La prog w A s (eval (.BinOp l o r p) env) x)(hb:ff (zR .truth x)=some b)(d:s.toks<=t)(g:∀a,t<=a->Z b (gy s s.heap a)):wpAny (model prog w) A (isTrue (.BinOp l o r p) env (eval (.BinOp l o r p) env)) Z no (gy s s.heap t):=
 ai (h t d _ fun v i c lv=>ai (wpAny_standAt (bK ((vI lv).of hb _ fun e f=>g e (ag c f)))))
theorem La.z7{a c:Expr}(h:La prog w A s (eval (.BinOp l o r p) env) x)(hb:ff (zR .truth x)=some b)(k:b=true->La prog w A s (eval a env) y)(m:b=false->La prog w A s (eval c env) y):La prog w A s (eval (.IfExp (.BinOp l o r p) a c q) env) y:=fun t e Z i=>
 ai (La.gO h hb e fun j d=>by
  clear h hb;induction b with
  |true=>exact k rfl j (ag e d) _ fun v f g lv=>i v f (ag d g) lv
  |false=>exact m rfl j (ag e d) _ fun v f g lv=>i v f (ag d g) lv)
theorem La.cell(d:env.scope.kind=.function)(b:env.kindOf n=some .cell)(f:env.cells.lookup n=some c)(e:s.heap.IsCell c (some v))(a:LR x v)(hd:(n==("__debug__" : Str))=false):La prog w A s (eval (.Name n p) env) x:=fun t _ _ h=>
 wpAny_Name (wpAny_loadName_cell d b f e (h v t (ah _) a)) hd
theorem La.loc(c:env.scope.kind=.function)(b:env.kindOf n=some .local)(d:s.heap.Ns env.locals m)(e:m n=some v)(a:LR x v)(hd:(n==("__debug__" : Str))=false):La prog w A s (eval (.Name n p) env) x:=fun t _ _ h=>
 wpAny_Name (wpAny_loadName_local c b d e (h v t (ah _) a)) hd
theorem La.bi{a:Expr}(h:∀t,∀Z:Value->Shared->Prop,Z (.builtin id) (gy s s.heap t)->wpAny (model prog w) A (eval (.Name n q) env) Z no (gy s s.heap t))(d:plainArg a=true)(i:La prog w A s (eval a env) x)(l:∀v,LR x v->La prog w A s (call (.builtin id) [v]) y):La prog w A s (eval (.Call (.Name n q) [a] [] p) env) y:=fun t b Z g=>
 wpAny_Call_ofName (h t _ (callWith_builtin1 (by
  refine eL (dR d) ?_;exact ai (m:=eval a env) (i t b _ fun v k c lv=>ai (m:=holding [v] (pure [])) (bK (aL (aL (l v lv k (ag b c) _ fun u e j f=>g u e (ag c j) f)))))) (dR d)))
theorem La.idx(i:s.toks≠0)(q:La prog w A s (eval l env) (.str j))(hr:La prog w A s (eval r env) y)(e:rC .idx (.str j) y=some z):La prog w A s (eval (.Subscript l r p) env) z:=fun t a Z m=>
 ai (q t a _ fun v D c lv=>ai (bK (hr D (ag a c) _ fun u h n k=>ai (wpAny_standAt (by
  have b:=ag c n;have g:wpAny (model prog w) A (getItem v u) Z no (gy s s.heap h):=(Fq (fun z=>i (le_zero.mp (z▸ag a b))) lv k).of e Z fun d o f B=>m d o (ag b f) B
  cases lv with
  |str x G l E=>exact mf (C:=⟨[],s.heap,prog,w,fun _=>.none,[]⟩) ⟨_,_,typeIs_str _ _ _,PySem.F.slot_str_getitem.lookup⟩ g)))))
end
noncomputable def b9:Expr:=.BinOp (.BinOp (.Name "bits" ⟨1526,46,1526,50⟩) .FloorDiv (.BinOp (.Constant (.int 2) 0 ⟨1526,54,1526,55⟩) .Pow (.Name "k" ⟨1526,59,1526,60⟩) ⟨1526,54,1526,60⟩) ⟨1526,46,1526,60⟩) .Mod (.Constant (.int 2) 0 ⟨1526,63,1526,64⟩) ⟨1526,46,1526,64⟩
noncomputable def B5:Expr:=.Call (.Name "chr" ⟨1526,20,1526,23⟩) [.BinOp (.Call (.Name "ord" ⟨1526,24,1526,27⟩) [.Subscript (.Name "name" ⟨1526,28,1526,32⟩) (.Name "k" ⟨1526,33,1526,34⟩) ⟨1526,28,1526,35⟩] [] ⟨1526,24,1526,36⟩) .Sub (.Constant (.int 32) 0 ⟨1526,39,1526,41⟩) ⟨1526,24,1526,41⟩] [] ⟨1526,20,1526,42⟩
noncomputable def q7:Expr:=.Subscript (.Name "name" ⟨1526,70,1526,74⟩) (.Name "k" ⟨1526,75,1526,76⟩) ⟨1526,70,1526,77⟩
def Zy:Expr:=.IfExp b9 B5 q7 ⟨1526,20,1526,77⟩
noncomputable def y0:Expr:=.Call (.Name "range" ⟨1526,87,1526,92⟩) [.Call (.Name "len" ⟨1526,93,1526,96⟩) [.Name "name" ⟨1526,97,1526,101⟩] [] ⟨1526,93,1526,102⟩] [] ⟨1526,87,1526,103⟩
noncomputable def Xc:Scope:=⟨.function,[(".0",.local),("k",.local),("chr",.globalImplicit),("ord",.globalImplicit),("bits",.free),("name",.free)],false,false,[]⟩
def Xg:Expr:=.ListComp Zy [⟨.Name "k" ⟨1526,82,1526,83⟩,y0,[],0⟩] Xc ⟨1526,19,1526,104⟩
def m9:List Stmt:=[.Return (some (.Call (.Attribute (.Constant (.str "") 0 ⟨1526,11,1526,13⟩) "join" ⟨1526,11,1526,18⟩) [Xg] [] ⟨1526,11,1526,105⟩)) ⟨1526,4,1526,105⟩]
def XH(P:Params):Obj:=((KF P).lookup 784).getD default
def b8(P:Params):FuncData:=(xU (XH P)).getD default
noncomputable abbrev wm(a:FuncData)(L:Addr):Env:=callEnvC a L 784
noncomputable abbrev Yz(L:Addr):List (Str×Addr):=[("name",L+1),("bits",L+2)]
abbrev Aq(a:FuncData)(L C:Addr):Env:=compEnvC Xc (Yz L) C (wm a L)
noncomputable abbrev IQ(v u:Value):List (Str×Value):=[("name",v),("bits",u)]
structure SK(K:Frag)(fd:FuncData):Prop where
 body:fd.body=.stmts m9
 C4:fd.closure=[]
 code:codeIn K fd.code fd.qualname=true
 cells:∀L,(wm fd L).cells.lookup ("name" : Str)=some (L+1)/\(wm fd L).cells.lookup ("bits" : Str)=some (L+2)
 kd:∀L,(wm fd L).scope.kind=.function
 kc:∀L,(wm fd L).kindOf "name"=some .cell
 kg:∀L,(wm fd L).kindOf "range"=some .globalImplicit/\(wm fd L).kindOf "len"=some .globalImplicit
 gl:∀L,(wm fd L).globals=mainGlobals/\(wm fd L).builtins=builtinsNs
 cl:∀L,closureFor Xc (wm fd L)=pure (Yz L)
 xk:∀L C,(Aq fd L C).scope.kind=.function
 xc:∀L C,(Aq fd L C).kindOf "name"=some .cell/\(Aq fd L C).kindOf "bits"=some .cell
 xg:∀L C,(Aq fd L C).kindOf "chr"=some .globalImplicit/\(Aq fd L C).kindOf "ord"=some .globalImplicit
 xe:∀L C,(Aq fd L C).globals=mainGlobals/\(Aq fd L C).builtins=builtinsNs
 xl:∀L C,(Aq fd L C).kindOf "k"=some .local
 args:∀v u,bindArgs fd ⟨[v,u],[]⟩=pure (IQ v u)
 bc:∀L v u,bindC (wm fd L).kindOf (IQ v u) (fun _=>none) "name"=some v/\bindC (wm fd L).kindOf (IQ v u) (fun _=>none) "bits"=some u
 ks:∀L v u,∀x∈IQ v u,fd.scope.names.lookup x.1=some .local\/(fd.scope.names.lookup x.1=some .cell/\((cellsFrom (L+1) fd.scope.names []).lookup x.1).isSome=true)
 co:fd.scope.isCoroutine=false/\fd.scope.isGenerator=false/\fd.scope.kind=.function
theorem WB(P):SK (KF P) (b8 P):=⟨by kernel_rfl,by kernel_rfl,by kernel_rfl,fun L=>⟨by kernel_rfl,by kernel_rfl⟩,fun L=>by kernel_rfl,fun L=>by kernel_rfl,fun L=>⟨by kernel_rfl,by kernel_rfl⟩,fun L=>⟨by kernel_rfl,by kernel_rfl⟩,fun L=>by kernel_rfl,fun L C=>by kernel_rfl,
 fun L C=>⟨by kernel_rfl,by kernel_rfl⟩,fun L C=>⟨by kernel_rfl,by kernel_rfl⟩,fun L C=>⟨by kernel_rfl,by kernel_rfl⟩,fun L C=>by kernel_rfl,fun v u=>by kernel_rfl,fun L v u=>⟨by kernel_rfl,by kernel_rfl⟩,fun L v u=>bA.mpr ⟨.inr ⟨by kernel_rfl,by kernel_rfl⟩,bA.mpr ⟨.inr ⟨by kernel_rfl,by kernel_rfl⟩,fun _ h=>iS h⟩⟩,by kernel_rfl,by kernel_rfl,by kernel_rfl⟩
theorem Ve(P):(KF P).lookup 784=some (XH P)/\(XH P).data=.func (b8 P):=⟨by kernel_rfl,by kernel_rfl⟩
theorem sR(P):∀x∈([("chr","chr"),("ord","ord"),("len","len")]:List (Str×String)),tm (KF P) x.1=some (.top (.builtin x.2)):=bA.mpr ⟨by kernel_rfl,bA.mpr ⟨by kernel_rfl,bA.mpr ⟨by kernel_rfl,fun _ h=>iS h⟩⟩⟩
theorem Eu(P):tm (KF P) "range"=some (.top (.type "range")):=by kernel_rfl
section
variable{P:Params}{Z:Heap×Program×World}{A:Around}{s:Shared}{env:Env}{x n:Str}{id:String}{p:Pos}{N:List Nat}{b i c L C:Nat}{v1 v2 v:Value}{m:Str->Option Value}
theorem oY(G:Good (cx P Z))(kd:env.scope.kind=.function)(k:env.kindOf x=some .globalImplicit)(gl:env.globals=mainGlobals/\env.builtins=builtinsNs)(keep:∀b o,Z.1.get? b=some o->s.heap.get? b=some o)(hg:tm (KF P) x=some (.top v0))(nd:(x==("__debug__" : Str))=false)
  (t) (Q) (a:Q v0 (gy s s.heap t)):wpAny (model Z.2.1 Z.2.2) A (eval (.Name x p) env) Q no (gy s s.heap t):=by
 refine wpAny_Name (eL (loadName_read kd k) ?_) nd;unfold loadGlobal;refine eL gl.1 (eL gl.2 (bW (aM.mp hg) fun o f d=>?_));rcases o with _|w
 .refine bW (aQ.mp (d)) fun v g h=>?_;cases h
  exact ai (looks_nsIn G.lI f _ _ _ (gy s s.heap t) keep (bW G.bn fun mb hb j=>(ai (wpAny_nsGet (hb.keeps keep) (eL (j x _ g) (aL a))))))
 .have e:=d;have hw:=(VR.kZ (Ω:=⟨fun _=>(0,0),0,s⟩) G.lI w).of e;obtain rfl:=pg hw;exact ai (looks_nsIn G.lI f _ _ _ (gy s s.heap t) keep (aL a))
theorem Jl:∀n∈gM,∀c∈n,32<=c/\c<128:=by decide
theorem two_pow:∀i<9,0<2^i/\2^i<=1000000:=by decide
theorem PN{a:FuncData}(D:SK (KF P) a)(G:Good (cx P Z))(e:N∈gM)(hi:N[i]?=some c)(d:s.toks≠0)(keep:∀b o,Z.1.get? b=some o->s.heap.get? b=some o)(T:s.heap.IsCell (L+1) (some v1))(H:s.heap.IsCell (L+2) (some v2))(V:LR (tx N) v1)(M:LR (int b) v2)(y:s.heap.Ns C m)(F:m "k"=some v)(B:LR (int i) v):
  La Z.2.1 Z.2.2 A s (eval Zy (Aq a L C)) (ch (bif b/2^i%2 !=0 then c-32 else c)):=by
 have kd:=D.xk L C;refine bY (D.xc L C) fun kn J=>(bY (D.xg L C) fun kc E=>?_)
 have gl:=D.xe L C;have w:=aS (au.mp hi).1 (jy N e);have lc:=Jl N e c (aR hi);have j:=two_pow i w;have S:∀p,La Z.2.1 Z.2.2 A s (eval (.Name "bits" p) (Aq a L C)) (int b):=fun p=>La.cell kd J rfl H M (by decide)
 have l:∀p,La Z.2.1 Z.2.2 A s (eval (.Name "k" p) (Aq a L C)) (int i):=fun p=>La.loc kd (D.xl L C) y F B (by decide)
 have f:∀p q r,La Z.2.1 Z.2.2 A s (eval (.Subscript (.Name "name" p) (.Name "k" q) r) (Aq a L C)) (ch c):=fun p q r=>La.idx d ((fun p=>La.cell kd kn rfl T V (by decide):∀p,La Z.2.1 Z.2.2 A s (eval (.Name "name" p) (Aq a L C)) (tx N)) p) (l q) (vQ hi (ag (jy N e) (by decide)))
 have U:rC .fdiv (int b) (int (2^i))=some (int (b/2^i)):=iK b j.1 j.2;have O:rC .fmod (int (b/2^i)) (.int 2)=some (int (b/2^i%2)):=gu (b/2^i) (k:=2) (by decide);have gO:La Z.2.1 Z.2.2 A s (eval b9 (Aq a L C)) (int (b/2^i%2)):=
  La.bin (La.bin (S _) (La.bin La.lit (l _) fun v u h k=>La.Zq w h k) fun v u h k=>La.two d U h k) La.lit fun v u h k=>La.two d O h k
 refine La.z7 gO (b:=b/2^i%2 !=0) ?_ (fun q=>?_) fun q=>(eL q (f _ _ _))
 .rcases b/2^i%2 with _|_<;>rfl
 .refine eL q (La.bi (oY G kd kc gl keep (sR P _ (.head _)) (by decide)) rfl (x:=int (c-32)) (La.bin (x:=int c) (La.bi (oY G kd E gl keep (sR P _ (.tail _ (.head _))) (by decide)) rfl (f _ _ _) fun v h t g=>((Ht h).of rfl)) La.lit fun v u h k=>La.two d ?_ h k) fun v h t g=>?_)
  .show some (bQ.int ((c)-32))=some (int (c-32));exact eL (show((c)-32)=((c-32:Nat):Int) by omega) rfl
  .refine (Dk (fun z=>d (le_zero.mp (z▸g))) h).of ?_;show(bif !(decide (((c-32:Nat):Int)<0)||decide (((c-32:Nat):Int)>0x10FFFF)) then some (bQ.str ⟨#[c-32]⟩) else none)=_;refine eL (bx (iz)) (eL (bx (by omega)) ?_);rfl
end
theorem Ck{bs:List β}(h:Paired F as bs):∀(j:Nat) y,bs[j]?=some y->∃v,as[j]?=some v/\F v y:=by
 induction h with
 |nil=>exact fun j y e=>cX e
 |cons h _ a=>
  intro j y e;rcases j with _|j
  .cases e;exact⟨_,rfl,h⟩
  .exact a j y e
theorem DT{W:List Nat}:∀ {ys},ys.length=W.length->(∀(j:Nat) y c,ys[j]?=some y->W[j]?=some c->LR (ch c) y)->∃ps,ys=strValues ps/\ps.map (·.1)=(W.map fun c=>[c]).map sl:=by
 induction W with
 |nil=>exact fun {ys} h _=>⟨[],by refine eL (bI.mp h) ?_;rfl,rfl⟩
 |cons c W d=>
  intro ys h k;rcases ys with _|⟨y,ys⟩
  .exact w8 h
  .refine bW (d (Nat.succ.inj h) fun j y c a b=>k (j+1) y c a b) fun ps f e=>?_;subst f
   have l:=k 0 y c rfl rfl;clear h k d;cases l with
   |str x t _ _=>exact⟨(⟨#[c]⟩,t)::ps,rfl,az _ e⟩
section
variable{Q:Value->Shared->Prop}
structure Rb(Z:Heap×Program×World)(N:List Nat)(b L:Nat)(s:Shared):Prop where
 keep:∀b o,Z.1.get? b=some o->s.heap.get? b=some o
 nm:∃v,s.heap.IsCell (L+1) (some v)/\LR (tx N) v
 bt:∃v,s.heap.IsCell (L+2) (some v)/\LR (int b) v
theorem Py{S:FuncData}(D:SK (KF P) S)(G:Good (cx P Z))(H:N∈gM)(hh:A.handled=none)(hs:s.toks≠0)(X:Rb Z N b L s)
  (V:∀a d g ys,d.IsList a ys->ys.toList.length=N.length->(∀(j:Nat) y c,ys.toList[j]?=some y->(cJ N b)[j]?=some c->LR (ch c) y)->(∀b o,s.heap.get? b=some o->d.get? b=some o)->Q (.ref a) (gy s d g))
  {I:Addr} (M:IsRangeIter f.heap I (0+(0:Nat)*1) ((N.length:Int)-(0:Nat)) 1) (fresh:s.heap.get? I=none) (k:∀b o,s.heap.get? b=some o->f.heap.get? b=some o) (B8:s.toks<=f.toks) (e2:∀d g,gy f d g=gy s d g):
  ∃T J E n x St,Value.ref I=.ref T/\Walks Z.2.1 Z.2.2 A T J E n x St/\n<=sizeLine/\St 0 f.heap/\(∀b∈J,b<f.heap.objs.size)/\
   QuietOnC Z.2.1 Z.2.2 A (wm S L) Xc (Yz L) "k" [] Zy E x (fun _=>true) (fun v y=>∀(j:Nat) t,v=.int j t->∀c,(cJ N b)[j]?=some c->LR (ch c) y) f/\
   (∀a d g ys (p:List Value),f.heap.get? a=none->d.IsList a ys->d.PlainList a ys->p.length=n->(∀j v,p[j]?=some v->x j v)->Paired (fun v y=>∀(j:Nat) t,v=.int j t->∀c,(cJ N b)[j]?=some c->LR (ch c) y) (p.filter fun _=>true) ys.toList->
    (∀b o,b∉E->f.heap.get? b=some o->d.get? b=some o)->Q (.ref a) { f with heap:=d,toks:=g }):=by
 refine bW X.nm fun v1 q1 r1=>(bW X.bt fun v2 q2 r2=>?_)
 have F:∀b o,s.heap.get? b=some o->b∉[I]:=fun b o e z=>by
  exact cX (eR fresh (eR (aB.mp z) e))
 refine SY I ([I]) ([I]) N.length _ _ ⟨rfl,(Walks.range hh I 0 1 N.length).bound,ag (jy N H) (by decide),M,fun b hb=>aB.mp hb▸Heap.lt_size M,⟨fun C i v l Zp E' _ _ _ _ _ _=>wpAny_tests_nil ⟨rfl,l.heap,l.toks,rfl,fun _ _ e=>e⟩,fun C i v l Zp E' _ hp _ U m q ht=>?_⟩,fun a d g ys p _ hl _ hlen hP B q=>?_⟩
 .obtain ⟨li,t,rfl⟩:=hp;have r:=fun b o e=>q b o (F b o e) (k b o e)
  rw [((Int.zero_add _).trans (Int.mul_one _))] at m ⊢
  .have u:=ao li;generalize N[i]=c at u;refine bu ((PN D G H u (bC (aS (pos_of_ne_zero hs) (ag B8 ht))) (fun b o e=>r b o (X.keep b o e)) (q1.keeps r) (q2.keeps r) r1 r2 U m (.int i t)) l.toks (ah _) (fun y Sp=>_/\Keeps l Sp) fun y t' _ ly=>⟨?_,l.heap,t',rfl,fun _ _ e=>e⟩) (fun _ _ h=>h) fun _ _ h=>h.elim
   intro j t2 ej c' O;obtain rfl:i=j:=ofNat.inj (by injection ej);have w:(cJ N b)[i]?=some (bif b/2^i%2 !=0 then c-32 else c):=by
    refine eL aH (eL List.getElem?_zipIdx (eL u ?_));exact eL (Nat.zero_add ..) rfl
   rw [w] at O;exact bB O▸ly
 .rw [List.filter_eq_self.mpr fun _ _=>rfl] at B;show Q (.ref a) (gy f d g);refine eL (e2 ..) (V a d g ys hl (B.length.symm.trans hlen) (fun j y c ey ec=>(bW (Ck B j y ey) fun v ev m=>?_)) fun b o e=>q b o (F b o e) (k b o e));obtain⟨_,t,rfl⟩:=hP j v ev;exact m j t (by exact eL ((Int.zero_add _).trans (Int.mul_one _)) rfl) c ec
theorem IV{d:FuncData}(D:SK (KF P) d)(G:Good (cx P Z))(i:N∈gM)(q:A.handled=none)(l:s.toks≠0)(X:Rb Z N b L s)
  (n:∀a f r ys,f.IsList a ys->ys.toList.length=N.length->(∀(j:Nat) y c,ys.toList[j]?=some y->(cJ N b)[j]?=some c->LR (ch c) y)->(∀b o,s.heap.get? b=some o->f.get? b=some o)->Q (.ref a) (gy s f r)):
  wpAny (model Z.2.1 Z.2.2) A (eval Xg (wm d L)) Q no s:=by
 have kd:=D.kd L;refine bY (D.kg L) fun k p=>?_
 have gl:=D.gl L;refine bW X.nm fun z u x=>(bW X.bt fun B E C=>(wpAny_ListComp_free (fun _=>true) (fun v y=>∀(j:Nat) t,v=.int j t->∀c,(cJ N b)[j]?=some c->LR (ch c) y) (D.cl L) (by decide) rfl (by decide) (by decide) ?_))
 have len:La Z.2.1 Z.2.2 A s (eval (.Call (.Name "len" ⟨1526,93,1526,96⟩) [.Name "name" ⟨1526,97,1526,101⟩] [] ⟨1526,93,1526,102⟩) (wm d L)) (int N.length):=
  La.bi (oY G kd p gl X.keep (sR P _ (.tail _ (.tail _ (.head _)))) (by decide)) rfl (La.cell kd (D.kc L) ((D.cells L).1) u x (by decide)) fun v h t g=>(Fj h).of rfl
 refine wpAny_Call_ofName (oY G kd k gl X.keep (Eu P) (by decide) s.toks _ ?_);show wpAny _ _ (callWith _ (.type "range") [] [(false,eval _ (wm d L))] []) _ _ _;refine PyProof.Rows.callWith_type rfl (Calls.evalArgs_plain (Calls.spliced_cons (len s.toks (ah _) _ fun F t g m=>Calls.spliced_nil ?_)));cases m;refine call_range_1 (wpAny_pyIter_range (IsRange.new ..) (small_one (by decide) (by decide) (Int.le_trans (by decide) (natCast_nonneg _)) (Int.lt_of_le_of_lt (ofNat_le.mpr (jy N i:N.length<=9)) (by decide))) ?_);have w:Builtin.Range.rangeSize 0 N.length 1=((N.length:Int)-((0:Nat))):=by rw [rangeSize_one];split<;>lia
 refine Py D G i q l X n ?_ ?_ (fun b o e=>aP _ (aP _ e)) (ag g (ag (aE _) (aE _))) fun _ _=>rfl
 .show IsRangeIter _ _ _ _ _;exact eR w (bp _ rfl)
 .exact cK _ (by show _<=(s.heap.push _).objs.size;exact eL (Heap.size_push ..) (aE _))
end
section
open PySem.Builtin.Str
section
variable{prog:Program}{w:World}{A:Around}{s:Shared}{W:List Nat}{t:Tok}{D:Addr}{ys:Array Value}{Q:Value->Shared->Prop}{E:Value->Shared->Prop}
theorem Ef{e:Expr}{p:Pos}{env:Env}{Q:Flow->Shared->Prop}(h:wpAny (model prog w) A (eval e env) (fun v s'=>Q (.ret v) s') E s):wpAny (model prog w) A (execs [.Return (some e) p] env) Q E s:=
 ai (wpAny_Return_some (bu h (fun _ _ h=>aL h) fun _ _ h=>h))
theorem BK{env:Env}(h:wpAny (model prog w) A (eval Xg env) (fun u s₁=>wpAny (model prog w) A (call (.builtin "str.join") [.str ⟨#[]⟩ s.toks,u]) Q E s₁) no (gy s s.heap (s.toks+1))):
  wpAny (model prog w) A (eval (.Call (.Attribute (.Constant (.str "") 0 ⟨1526,11,1526,13⟩) "join" ⟨1526,11,1526,18⟩) [Xg] [] ⟨1526,11,1526,105⟩) env) Q E s:=by
 refine MethodCall_ (Calls.Constant_str ?_)
 with_reducible refine GM.join ?_
 exact callWith_method1 (Calls.spliced_cons (bu h (fun _ _ h=>Calls.spliced_nil h) fun _ _ h=>h.elim))
theorem yD(m:s.toks≠0)(p:s.heap.IsList D ys)(g:2<=W.length)(hb:W.length<=big)(l:ys.toList.length=W.length)(h:∀(j:Nat) y c,ys.toList[j]?=some y->W[j]?=some c->LR (ch c) y)(n:∀v o,LR (tx W) v->Q v (gy s s.heap o)):wpAny (model prog w) A (call (.builtin "str.join") [.str ⟨#[]⟩ t,.ref D]) Q E s:=by
 refine bW (DT l h) fun ps e d=>?_;have f:ps.length=W.length:=by
  have:=az length d;rw [aj,aj,aj] at this;exact this
 have fl:(W.map fun c=>[c]).flatten=W:=by
  exact eR List.flatMap_def (List.flatMap_singleton' W)
 have ok:JoinOk ⟨#[]⟩ (ps.map (·.1))=true:=by
  unfold JoinOk;refine eL d (eL (StrLaws.joinTotal ..) (eL (zW ..) (eL (fl ..) (eL (rfl:(⟨#[]⟩:Str).length=0) (eL (Nat.mul_zero ..) (eL (Nat.add_zero ..) ?_))))));unfold tooLong;refine eL (bx (Nat.not_lt.mpr (cA hb)):decide (W.length>sizeLine)=false) ?_;rfl
 have gl:glued ⟨#[]⟩ (ps.map (·.1))=⟨W.toArray⟩:=by
  have k:=yO (W.map fun c=>[c]);rw [fl] at k;exact eL d k
 refine call_meets PySem.F.slot_str_join (typeIs_str _ _ _) PySem.F.entry_str_join (PySem.F.args_str_join_2 _ _) (meets_str_join_list ⟨#[]⟩ t D ps ((bM _).mp ok)) ⟨(eR e rfl:ys=(strValues ps).toArray)▸p,?_⟩;have i:(glued ⟨#[]⟩ (ps.map (·.1))).length<=sizeLine:=by exact eL (gl ..) (cA hb)
 have made:(Made.str (glued ⟨#[]⟩ (ps.map (·.1)))).post (fun v s'=>Q v s') s:=⟨i,eL (gl ..) (n _ _ (.str _ _ (gl▸i) m))⟩;rcases ps with _|⟨a,_|⟨b,r⟩⟩
 .exact absurd (ag g (Nat.le_of_eq f.symm):2<=0) (by decide)
 .exact absurd (ag g (Nat.le_of_eq f.symm):2<=1) (by decide)
 .exact made
end
def C9(s:Shared)(d:Heap)(N:List Nat)(b:Nat)(u:Value)(s':Shared):Prop:=∃D a e ys,u=.ref D/\s'=gy s a e/\a.IsList D ys/\ys.toList.length=N.length/\(∀(j:Nat) y c,ys.toList[j]?=some y->(cJ N b)[j]?=some c->LR (ch c) y)/\∀b o,d.get? b=some o->a.get? b=some o
theorem Jw:∀n∈gM,2<=n.length:=by decide
theorem KW{P:Params}{l:FuncData}{Z:Heap×Program×World}{N:List Nat}{b L:Nat}{A:Around}{s:Shared}{Q:Flow->Shared->Prop}{E:Value->Shared->Prop}(D:SK (KF P) l)(G:Good (cx P Z))(g:N∈gM)(q:A.handled=none)(X:Rb Z N b L s)
  (p:∀v d c,LR (tx (cJ N b)) v->(∀b o,s.heap.get? b=some o->d.get? b=some o)->Q (.ret v) (gy s d c)):wpAny (model Z.2.1 Z.2.2) A (execs m9 (wm l L)) Q E s:=by
 refine Ef (BK ?_);have z:=IV (s:=gy s s.heap (s.toks+1)) (Q:=C9 s s.heap N b) (P:=P) D G g q (succ_ne_zero _) ⟨X.keep,X.nm,X.bt⟩ fun a d c ys j e i k=>(kj a d c ⟨ys,rfl,rfl,j,e,i,k⟩)
 refine bu (wpAny_toks_of (n:=s.toks+1) (ah _) z) (fun u s' z=>?_) fun _ _ h=>h.2
 obtain⟨m,D,d,c,ys,rfl,rfl,j,e,i,k⟩:=z;have f:=gj N b;exact yD (W:=cJ N b) (bC (aS (succ_pos _) m)) j (f▸Jw N g) (f▸ag (jy N g) (by decide)) (e.trans f.symm) i fun v c lv=>p v d c lv k
theorem KU{P:Params}{Z:Heap×Program×World}{i:FuncData}{N:List Nat}{b:Nat}{A:Around}{s:Shared}{c d:Value}{o:Obj}(D:SK (KF P) i)(G:Good (cx P Z))(m:N∈gM)(hr:jL A 40)(t:s.toks≠0)(keep:∀b o,Z.1.get? b=some o->s.heap.get? b=some o)(ho:s.heap.get? 784=some o)(hd:o.data=.func i)(q:LR (tx N) c)(l:LR (int b) d):
  codeAny (model Z.2.1 Z.2.2) A (.call (.ref 784) ⟨[c,d],[]⟩) (fun r s'=>∃v f g,r=.ok (.ret v)/\LR (tx (cJ N b)) v/\s'=gy s f g/\∀b o,s.heap.get? b=some o->f.get? b=some o) s:=by
 refine fq D.co fun c1 c2 n=>(codeAny_call_function (Nat.lt_of_le_of_lt (ag (aK _ _) hr.depth) (by decide)) ho hd c1 c2 D.body (codeRec_of (fun a o e=>keep _ _ (G.lI _ _ e):(KF P).In s.heap) D.code) (eL (D.args c d) (eL D.C4 (aL (wpAny_newFunctionEnv_cells n (D.ks _ c d) fun env k s' Y=>?_)))))
 subst k;refine⟨(G.lim.keeps keep).keeps Y.toInCall.keep,codeAny_func ?_⟩;have b1:s'.heap.IsCell (s.heap.objs.size+1) (some c):=Eq.mp (az _ (D.bc _ c d).1) (Y.cell "name" _ (D.cells s.heap.objs.size).1);have b2:s'.heap.IsCell (s.heap.objs.size+2) (some d):=Eq.mp (az _ (D.bc _ c d).2) (Y.cell "bits" _ (D.cells s.heap.objs.size).2);refine eF Y.done fun w u j h=>?_;subst j
 exact KW D G m (hr.deeper _).handled ⟨fun b o e=>h b o (keep b o e),⟨c,b1,q⟩,⟨d,b2,l⟩⟩ fun v f g lv p=>(dJ v f ⟨g,rfl,lv,rfl,fun b o e=>p b o (h b o e)⟩)
theorem YD{P:Params}{Z:Heap×Program×World}(G:Good (cx P Z)):IC P Z:=fun N j b F Ω σ A q H hr c=>by
 refine cw c.cons_inv fun n us a l e=>?_;clear c;subst a
 refine cw e.cons_inv fun o us a g c=>?_;clear e;subst a
 obtain rfl:=c.nil_inv;obtain⟨m,f2⟩:=Ve P;refine codeAny_mono (codeAny_toks_of (ah _) (KU (WB P) G j hr H.rel.toks H.keep (H.keep _ _ (G.lI _ _ m)) f2 l.leaf g.leaf)) fun r s' h=>(bY h fun f d=>(jQ d fun v s p a lv i k=>?_))
 clear h d;subst a;subst i;exact cW.grown H f k fun _=>.lf _ _ lv
theorem Bq{P:Params}{Z:Heap×Program×World}{o:Obj}{ns:List Int}(G:Good (cx P Z))(a:ns.length<64):cG (cx P Z) (bodyOf (KF P) 817) (dh P 817 [("script",.obj 0)] [.dy o (cQ ns)] 40) (.ret (.lf (.bool true))) [.dy o (cQ ns)]:=Uc G (YD G) a
end
section
open PySem.Spec
theorem law_end3
  (T:Top p loose h mg mb s.heap) (X:(KF P).In s.heap) (hi:importsNone p=true) (hg:s.gens = #[])
  (g:s.heap.IsList TE f.toArray) (d:IntsAre f ns) (b:ns.length<=63)
  (hr:∀cls,c.raises args cls=false) (hp:c.post args (.bool true) args=true):
  wpAny (model prog w) callerA (call (.ref 817) [.ref TE]) (fun v s'=>GoodWG c cl a args s (.ok (.ret v)) s') (fun e s'=>GoodWG c cl a args s (.error e) s') s:=
 Gd T X hi hg g d b hr hp fun _ _ G=>Bq G (Nat.lt_succ_of_le b)
end
end
end Mine
section
set_option tactic.hygienic true
set_option backward.match.sparseCases true
namespace Mine
noncomputable section
theorem hd.tw6818987989461384207:0=0:=rfl
theorem hd.tw14143348200573808938:0=0:=rfl
theorem hd.tw1810128313956251070:0=0:=rfl
theorem hd.tw15424705756172794927:0=0:=rfl
theorem hd.tw2845207389951388047:0=0:=rfl
theorem hd.tw4975429006339234634:0=0:=rfl
theorem hd.tw6924109203229866365:0=0:=rfl
theorem hd.tw15616948245753086127:0=0:=rfl
theorem hd.tw8213287575567293882:0=0:=rfl
theorem hd.tw13047593935725612058:0=0:=rfl
theorem hd.tw8587404781116728655:0=0:=rfl
theorem hd.tw7519716089354478335:0=0:=rfl
theorem hd.tw14892549342360969540:0=0:=rfl
theorem hd.tw978945382295711627:0=0:=rfl
theorem hd.tw7523672394736509286:0=0:=rfl
theorem hd.tw4065347644161347641:0=0:=rfl
theorem hd.tw18185175575083235020:0=0:=rfl
theorem hd.tw17325209927041812611:0=0:=rfl
theorem hd.tw11128854368766332075:0=0:=rfl
theorem hd.tw12591134339009171964:0=0:=rfl
theorem hd.tw11241887515815520470:0=0:=rfl
theorem hd.tw3722166409189360004:0=0:=rfl
theorem hd.tw13372903325873741775:0=0:=rfl
theorem hd.tw4377701919642642989:0=0:=rfl
theorem hd.tw13468300074154594103:0=0:=rfl
theorem hd.tw13478424178397462001:0=0:=rfl
theorem hd.tw8068729725432388964:0=0:=rfl
theorem hd.tw9258712216579463092:0=0:=rfl
theorem hd.tw4367455430839740993:0=0:=rfl
theorem hd.tw651126834518081296:0=0:=rfl
theorem hd.tw12480425521718506038:0=0:=rfl
theorem hd.tw12414669353804360901:0=0:=rfl
theorem hd.tw18368451091360184599:0=0:=rfl
theorem hd.tw5781342201191254626:0=0:=rfl
theorem hd.tw17711083657039698284:0=0:=rfl
theorem hd.tw1452849714261714991:0=0:=rfl
theorem hd.tw431663062938280185:0=0:=rfl
theorem hd.tw5289708365253275695:0=0:=rfl
theorem hd.tw12631932088317031055:0=0:=rfl
theorem hd.tw137786328141462057:0=0:=rfl
theorem hd.tw14078009766183191694:0=0:=rfl
theorem hd.tw15043168886218598503:0=0:=rfl
theorem hd.tw15179676742415161110:0=0:=rfl
theorem hd.tw2448417245163862455:0=0:=rfl
theorem hd.tw10752148897807903841:0=0:=rfl
theorem hd.tw16649331688326792143:0=0:=rfl
theorem hd.tw11652457597714270106:0=0:=rfl
theorem hd.tw8674980644004459391:0=0:=rfl
theorem hd.tw697623264460660564:0=0:=rfl
theorem hd.tw7793673504863384051:0=0:=rfl
theorem hd.tw17312999752573914782:0=0:=rfl
theorem hd.tw3513125359445811510:0=0:=rfl
theorem hd.tw2468469042602058204:0=0:=rfl
theorem hd.tw10595968288072337780:0=0:=rfl
theorem hd.tw4856431653887292112:0=0:=rfl
theorem hd.tw14454528878903484812:0=0:=rfl
theorem hd.tw3953601041324332601:0=0:=rfl
theorem hd.tw2216850387143573719:0=0:=rfl
theorem hd.tw10543509907540572799:0=0:=rfl
theorem hd.tw15427206886491885616:0=0:=rfl
theorem hd.tw6709418730364537143:0=0:=rfl
theorem hd.tw7752569895197466512:0=0:=rfl
theorem hd.tw10507497572311344420:0=0:=rfl
theorem hd.tw461538923250603899:0=0:=rfl
theorem hd.tw18241275227582772068:0=0:=rfl
theorem hd.tw5592360268479517082:0=0:=rfl
theorem hd.tw17471934795394947791:0=0:=rfl
theorem hd.tw9077708301081682751:0=0:=rfl
theorem hd.tw10654345511274693656:0=0:=rfl
theorem hd.tw13994979335412520660:0=0:=rfl
theorem hd.tw17772917993097084435:0=0:=rfl
theorem hd.tw8047900516022102942:0=0:=rfl
theorem hd.tw12629531694177875297:0=0:=rfl
theorem hd.tw14727110085682223627:0=0:=rfl
theorem hd.tw8343274005884668182:0=0:=rfl
theorem hd.tw1445366717492459972:0=0:=rfl
theorem hd.tw6998783941825042932:0=0:=rfl
theorem hd.tw4724112764586752083:0=0:=rfl
theorem hd.tw12509009523430927325:0=0:=rfl
theorem hd.tw9087110039335098043:0=0:=rfl
theorem hd.tw16772102934027710169:0=0:=rfl
theorem hd.tw12936449754285732098:0=0:=rfl
theorem hd.tw16301592386811335294:0=0:=rfl
theorem hd.tw16332348944364537037:0=0:=rfl
theorem hd.tw18087722134493236510:0=0:=rfl
theorem hd.tw14969688514271112891:0=0:=rfl
theorem hd.tw2114630138375439770:0=0:=rfl
theorem hd.tw7752767780024739350:0=0:=rfl
theorem hd.tw17577478241444706838:0=0:=rfl
theorem hd.tw17583924267553061668:0=0:=rfl
theorem hd.tw3763122126050802206:0=0:=rfl
theorem hd.tw13129650132239662433:0=0:=rfl
theorem hd.tw6528754448969337418:0=0:=rfl
theorem hd.tw14598272352848978880:0=0:=rfl
theorem hd.tw5373601922739893978:0=0:=rfl
theorem hd.tw17101829828953933863:0=0:=rfl
theorem hd.tw17447410573909459338:0=0:=rfl
theorem hd.tw8770205317985620760:0=0:=rfl
theorem hd.tw7540655947842036084:0=0:=rfl
theorem hd.tw6902198413751149823:0=0:=rfl
theorem hd.tw7854228177987924090:0=0:=rfl
theorem hd.tw4990156530697904881:0=0:=rfl
theorem hd.tw7354087734392854552:0=0:=rfl
theorem hd.tw5567388512258382067:0=0:=rfl
theorem hd.tw3504079246686126755:0=0:=rfl
theorem hd.tw8015326511298524721:0=0:=rfl
theorem hd.tw7746578258024575070:0=0:=rfl
theorem hd.tw12588582704262371052:0=0:=rfl
theorem hd.tw13064122474441708322:0=0:=rfl
theorem hd.tw1811199898794616982:0=0:=rfl
theorem hd.tw5282504435634884242:0=0:=rfl
theorem hd.tw1382963296337349011:0=0:=rfl
theorem hd.tw4867443594122359892:0=0:=rfl
theorem hd.tw15368132723985388332:0=0:=rfl
theorem hd.tw13518370688599389936:0=0:=rfl
theorem hd.tw13342606739435360313:0=0:=rfl
theorem hd.tw9842699097658496709:0=0:=rfl
theorem hd.tw11249132867342737325:0=0:=rfl
theorem hd.tw5363564295841288755:0=0:=rfl
theorem hd.tw5562173858411828344:0=0:=rfl
theorem hd.tw4218252797249083135:0=0:=rfl
theorem hd.tw17570734847185409352:0=0:=rfl
theorem hd.tw5189956158058943387:0=0:=rfl
theorem hd.tw5278057926702712004:0=0:=rfl
theorem hd.tw6423634429210846174:0=0:=rfl
theorem hd.tw3890083515106143593:0=0:=rfl
theorem hd.tw7698358502638924378:0=0:=rfl
theorem hd.tw6482722132109649516:0=0:=rfl
theorem hd.tw2394040479862359591:0=0:=rfl
theorem hd.tw14006173549557618073:0=0:=rfl
theorem hd.tw526207354791536317:0=0:=rfl
theorem hd.tw5464967688985200232:0=0:=rfl
theorem hd.tw11912922877643110818:0=0:=rfl
theorem hd.tw5464280966869935822:0=0:=rfl
theorem hd.tw1448358952932078338:0=0:=rfl
theorem hd.tw9271970288684553227:0=0:=rfl
theorem hd.tw7850187754069100156:0=0:=rfl
theorem hd.tw17994825080979385314:0=0:=rfl
theorem hd.tw6636792957720756321:0=0:=rfl
theorem hd.tw2799716289819351777:0=0:=rfl
theorem hd.tw3969467460574380271:0=0:=rfl
theorem hd.tw7082855905992002993:0=0:=rfl
theorem hd.tw11631869004601391166:0=0:=rfl
theorem hd.tw4478964076566166474:0=0:=rfl
theorem hd.tw13566260322249332789:0=0:=rfl
theorem hd.tw6761669909254768831:0=0:=rfl
theorem hd.tw3312855554403267510:0=0:=rfl
theorem hd.tw10273187271170590260:0=0:=rfl
theorem hd.tw10111801491309104144:0=0:=rfl
theorem hd.tw10031445930688152421:0=0:=rfl
theorem hd.tw2871226400543044806:0=0:=rfl
theorem hd.tw16456969618363192440:0=0:=rfl
theorem hd.tw7721951785955056133:0=0:=rfl
theorem hd.tw17232729238497989147:0=0:=rfl
theorem hd.tw7792395482447073224:0=0:=rfl
theorem hd.tw7626941382939369770:0=0:=rfl
theorem hd.tw14294001040229213422:0=0:=rfl
theorem hd.tw17217394356764393341:0=0:=rfl
theorem hd.tw8493152586797012548:0=0:=rfl
theorem hd.tw6800881396052196260:0=0:=rfl
theorem hd.tw17273587926920868623:0=0:=rfl
theorem hd.tw6819123309680001836:0=0:=rfl
theorem hd.tw17901334829092211166:0=0:=rfl
theorem hd.tw15228807520496212463:0=0:=rfl
theorem hd.tw4609310046291750870:0=0:=rfl
theorem hd.tw7628703163842673926:0=0:=rfl
theorem hd.tw16037735763661986305:0=0:=rfl
theorem hd.tw3759623122121258479:0=0:=rfl
theorem hd.tw6596136833678090234:0=0:=rfl
theorem hd.tw12232750017996463310:0=0:=rfl
theorem hd.tw4571360026077952820:0=0:=rfl
theorem hd.tw7610815399733428385:0=0:=rfl
theorem hd.tw1882180444382439491:0=0:=rfl
theorem hd.tw7292484366425897655:0=0:=rfl
theorem hd.tw16053994301053490033:0=0:=rfl
theorem hd.tw701787995468756871:0=0:=rfl
theorem hd.tw5360435025570183010:0=0:=rfl
theorem hd.tw7676003278276379012:0=0:=rfl
theorem hd.tw974590082735218474:0=0:=rfl
theorem hd.tw7657299143145469618:0=0:=rfl
theorem hd.tw4292457097857839397:0=0:=rfl
theorem hd.tw11672842613191775419:0=0:=rfl
theorem hd.tw10737458330869947321:0=0:=rfl
theorem hd.tw3922637787740509324:0=0:=rfl
theorem hd.tw10844753989422098599:0=0:=rfl
theorem hd.tw190519026028168232:0=0:=rfl
theorem hd.tw11623594800819314181:0=0:=rfl
theorem hd.tw920214292312260371:0=0:=rfl
theorem hd.tw9277588360372424766:0=0:=rfl
theorem hd.tw15463257786427224491:0=0:=rfl
theorem hd.tw9048539425550374019:0=0:=rfl
theorem hd.tw8773699223549846113:0=0:=rfl
theorem hd.tw17047115858639842297:0=0:=rfl
theorem hd.tw17420951861521290806:0=0:=rfl
theorem hd.tw2457190517430149469:0=0:=rfl
theorem hd.tw1118553966540926140:0=0:=rfl
theorem hd.tw2263123870574935043:0=0:=rfl
theorem hd.tw14586822029978311858:0=0:=rfl
theorem hd.tw16823583209533085739:0=0:=rfl
theorem hd.tw13483081372092288885:0=0:=rfl
theorem hd.tw11109741339103130912:0=0:=rfl
theorem hd.tw17335414052712997756:0=0:=rfl
theorem hd.tw7654286748164834634:0=0:=rfl
theorem hd.tw8531993380330477603:0=0:=rfl
theorem hd.tw9244321171653502345:0=0:=rfl
theorem hd.tw8538877666451538035:0=0:=rfl
theorem hd.tw4993660671451451078:0=0:=rfl
theorem hd.tw3673089383077640791:0=0:=rfl
theorem hd.tw6374767894290048045:0=0:=rfl
theorem hd.tw11729958736954745289:0=0:=rfl
theorem hd.tw8721321648031231958:0=0:=rfl
theorem hd.tw3085183777334472315:0=0:=rfl
theorem hd.tw2134215046882385847:0=0:=rfl
theorem hd.tw5318216170032084099:0=0:=rfl
theorem hd.tw1129884963351977449:0=0:=rfl
theorem hd.tw17278324374586462682:0=0:=rfl
theorem hd.tw13944508082162953488:0=0:=rfl
theorem hd.tw7712819752767893495:0=0:=rfl
theorem hd.tw1162550495960143265:0=0:=rfl
theorem hd.tw1563692795949630186:0=0:=rfl
theorem hd.tw7085514621470718492:0=0:=rfl
theorem hd.tw13855946660403688772:0=0:=rfl
theorem hd.tw13534587687697041467:0=0:=rfl
theorem hd.tw10170382586518783626:0=0:=rfl
theorem hd.tw2284436838669742495:0=0:=rfl
theorem hd.tw6988595667528144454:0=0:=rfl
theorem hd.tw15963624873386084050:0=0:=rfl
theorem hd.tw16794629799341752650:0=0:=rfl
theorem hd.tw7941745277869089046:0=0:=rfl
theorem hd.tw3434918251397683217:0=0:=rfl
theorem hd.tw10403243965636340961:0=0:=rfl
theorem hd.tw9753359207989701909:0=0:=rfl
theorem hd.tw4015398097383911347:0=0:=rfl
theorem hd.tw16945582573551092051:0=0:=rfl
theorem hd.tw3828038474966422129:0=0:=rfl
theorem hd.tw9983964734214183352:0=0:=rfl
theorem hd.tw10098268173465320503:0=0:=rfl
theorem hd.tw6109525258741381055:0=0:=rfl
theorem hd.tw8004679753235328684:0=0:=rfl
theorem hd.tw16853341256802265648:0=0:=rfl
theorem hd.tw8898355551111435312:0=0:=rfl
theorem hd.tw2595994805191909183:0=0:=rfl
theorem hd.tw13217225542625558698:0=0:=rfl
theorem hd.tw11213053971927718326:0=0:=rfl
theorem hd.tw9325612240067072397:0=0:=rfl
theorem hd.tw3876449026389394717:0=0:=rfl
theorem hd.tw9927179837433541088:0=0:=rfl
theorem hd.tw4523669819894539328:0=0:=rfl
theorem hd.tw14768889098011018680:0=0:=rfl
theorem hd.tw15766875824913328220:0=0:=rfl
theorem hd.tw9983995961361265002:0=0:=rfl
theorem hd.tw9627899436633539337:0=0:=rfl
theorem hd.tw10905181550472923540:0=0:=rfl
theorem hd.tw14294344414604881677:0=0:=rfl
theorem hd.tw2000490053193787569:0=0:=rfl
theorem hd.tw16009884308244765898:0=0:=rfl
theorem hd.tw14091984216438838776:0=0:=rfl
theorem hd.tw16473244170626142550:0=0:=rfl
theorem hd.tw14859038896228082724:0=0:=rfl
theorem hd.tw4851647983119433812:0=0:=rfl
theorem hd.tw14817486215969520457:0=0:=rfl
theorem hd.tw16158619036321959407:0=0:=rfl
theorem hd.tw4182648748547736412:0=0:=rfl
theorem hd.tw16138627921320673191:0=0:=rfl
theorem hd.tw10784824025267889561:0=0:=rfl
theorem hd.tw3404104791013757517:0=0:=rfl
theorem hd.tw15508949281206285077:0=0:=rfl
theorem hd.tw13171141561276507362:0=0:=rfl
theorem hd.tw17172931820748874959:0=0:=rfl
theorem hd.tw7898215921889874393:0=0:=rfl
theorem hd.tw2304311442786299043:0=0:=rfl
theorem hd.tw3109861748172591687:0=0:=rfl
theorem hd.tw16257038226119295666:0=0:=rfl
theorem hd.tw5135410709514514960:0=0:=rfl
theorem hd.tw8652628183442184457:0=0:=rfl
theorem hd.tw15595854959937240912:0=0:=rfl
theorem hd.tw16828841361933241965:0=0:=rfl
theorem hd.tw9623886841239527219:0=0:=rfl
theorem hd.tw18439511094173506614:0=0:=rfl
theorem hd.tw15083628210047938546:0=0:=rfl
theorem hd.tw6196171512934965099:0=0:=rfl
theorem hd.tw3026753882482905222:0=0:=rfl
theorem hd.tw11415386828835887437:0=0:=rfl
theorem hd.tw8377043916266704855:0=0:=rfl
theorem hd.tw16742648372681657963:0=0:=rfl
theorem hd.tw12685813987229840507:0=0:=rfl
theorem hd.tw1506431575118746342:0=0:=rfl
theorem hd.tw17183224562656869120:0=0:=rfl
theorem hd.tw13866372431405929976:0=0:=rfl
theorem hd.tw8887996145723391905:0=0:=rfl
theorem hd.tw4521480514310152432:0=0:=rfl
theorem hd.tw15367658039229448194:0=0:=rfl
theorem hd.tw12112201142124510154:0=0:=rfl
theorem hd.tw12353913968525425643:0=0:=rfl
theorem hd.tw8589211134812392127:0=0:=rfl
theorem hd.tw15889433306838628275:0=0:=rfl
theorem hd.tw13038990169509382042:0=0:=rfl
theorem hd.tw12331051067403766639:0=0:=rfl
theorem hd.tw4643362625855044894:0=0:=rfl
theorem hd.tw14333710738500927179:0=0:=rfl
theorem hd.tw2616952524820836436:0=0:=rfl
theorem hd.tw16692772259055178886:0=0:=rfl
theorem hd.tw1712922718373300912:0=0:=rfl
theorem hd.tw13322179722446271537:0=0:=rfl
theorem hd.tw11434409384045074295:0=0:=rfl
theorem hd.tw14991384322417631237:0=0:=rfl
theorem hd.tw4306033108306051805:0=0:=rfl
theorem hd.tw4946210868454251104:0=0:=rfl
theorem hd.tw8716120427605611371:0=0:=rfl
theorem hd.tw8960069828448710407:0=0:=rfl
theorem hd.tw5138769234217329475:0=0:=rfl
theorem hd.tw15642763164714097627:0=0:=rfl
theorem hd.tw2845679848157327705:0=0:=rfl
theorem hd.tw15279998641719260112:0=0:=rfl
theorem hd.tw17989097746536338734:0=0:=rfl
theorem hd.tw15102309248680683417:0=0:=rfl
theorem hd.tw6780557218761844654:0=0:=rfl
theorem hd.tw5505005885091257285:0=0:=rfl
theorem hd.tw617508947420966582:0=0:=rfl
theorem hd.tw3364418463632694928:0=0:=rfl
theorem hd.tw18293851220164018083:0=0:=rfl
theorem hd.tw3789350110615891812:0=0:=rfl
theorem hd.tw7691918140598264929:0=0:=rfl
theorem hd.tw13466754112058979494:0=0:=rfl
theorem hd.tw424627922949020093:0=0:=rfl
theorem hd.tw4478166936697009375:0=0:=rfl
theorem hd.tw714852897916480489:0=0:=rfl
theorem hd.tw15048261121198461528:0=0:=rfl
theorem hd.tw17491280204586788870:0=0:=rfl
theorem hd.tw1589133516308662214:0=0:=rfl
theorem hd.tw15643275761693703936:0=0:=rfl
theorem hd.tw13431754692932380062:0=0:=rfl
theorem hd.tw5433107678231618845:0=0:=rfl
theorem hd.tw11852641145169952659:0=0:=rfl
theorem hd.tw13092906067662860646:0=0:=rfl
theorem hd.tw15675198926951892251:0=0:=rfl
theorem hd.tw4478177076189095293:0=0:=rfl
theorem hd.tw6136932545381038964:0=0:=rfl
theorem hd.tw1017328040139425936:0=0:=rfl
theorem hd.tw432457690288141553:0=0:=rfl
theorem hd.tw1736311965527578767:0=0:=rfl
theorem hd.tw189712035060473897:0=0:=rfl
theorem hd.tw11507959949525687343:0=0:=rfl
theorem hd.tw13220430256171166289:0=0:=rfl
theorem hd.tw17387473266821786944:0=0:=rfl
theorem hd.tw10933677585905718993:0=0:=rfl
theorem hd.tw14897118293552085349:0=0:=rfl
theorem hd.tw4367231431732253908:0=0:=rfl
theorem hd.tw13285133528070534704:0=0:=rfl
theorem hd.tw1413172679324656950:0=0:=rfl
theorem hd.tw15591429051563716170:0=0:=rfl
theorem hd.tw663384727985864361:0=0:=rfl
theorem hd.tw13160604113216922460:0=0:=rfl
theorem hd.tw3039998526598829958:0=0:=rfl
theorem hd.tw9719896912496429819:0=0:=rfl
theorem hd.tw9908193460736022307:0=0:=rfl
theorem hd.tw6295535725891239091:0=0:=rfl
theorem hd.tw16919406825032445293:0=0:=rfl
theorem hd.tw12583169130044498743:0=0:=rfl
theorem hd.tw11115866451450875312:0=0:=rfl
theorem hd.tw102014493982917126:0=0:=rfl
theorem hd.tw825126770350376351:0=0:=rfl
theorem hd.tw10841399608879689956:0=0:=rfl
theorem hd.tw11713075325732132258:0=0:=rfl
theorem hd.tw8210421348078903774:0=0:=rfl
theorem hd.tw17992873397187703194:0=0:=rfl
theorem hd.tw14205177575709318024:0=0:=rfl
theorem hd.tw9731375825926819010:0=0:=rfl
theorem hd.tw14567429538950270057:0=0:=rfl
theorem hd.tw14743440263598761229:0=0:=rfl
theorem hd.tw2295870552580634182:0=0:=rfl
theorem hd.tw6957150274394394060:0=0:=rfl
theorem hd.tw10030107230732127627:0=0:=rfl
theorem hd.tw8268277133935991078:0=0:=rfl
theorem hd.tw18233516762306594366:0=0:=rfl
theorem hd.tw14955159897011116063:0=0:=rfl
theorem hd.tw15278966056882409248:0=0:=rfl
theorem hd.tw8242931771332617035:0=0:=rfl
theorem hd.tw1033889070964956483:0=0:=rfl
theorem hd.tw3419581819265744254:0=0:=rfl
theorem hd.tw3941438180925939637:0=0:=rfl
theorem hd.tw12642813592246648485:0=0:=rfl
theorem hd.tw5167245352685981253:0=0:=rfl
theorem hd.tw2450686747263038406:0=0:=rfl
theorem hd.tw5505332120971382143:0=0:=rfl
theorem hd.tw7512474625130614241:0=0:=rfl
theorem hd.tw16259696140248634718:0=0:=rfl
theorem hd.tw12590977762386282803:0=0:=rfl
theorem hd.tw15089522573102190283:0=0:=rfl
theorem hd.tw14683707025165767436:0=0:=rfl
theorem hd.tw11917015161858427179:0=0:=rfl
theorem hd.tw9748044761591592747:0=0:=rfl
theorem hd.tw15924899543223041283:0=0:=rfl
theorem hd.tw13521220419032184179:0=0:=rfl
theorem hd.tw16154546982801380032:0=0:=rfl
theorem hd.tw10292235466723388172:0=0:=rfl
theorem hd.tw11024222330075796079:0=0:=rfl
theorem hd.tw10471273241005507999:0=0:=rfl
theorem hd.tw1359830224848277088:0=0:=rfl
theorem hd.tw12744807935193187038:0=0:=rfl
theorem hd.tw11079593142295127227:0=0:=rfl
theorem hd.tw11054480109507316185:0=0:=rfl
theorem hd.tw11631947586910100387:0=0:=rfl
theorem hd.tw17839855588491291079:0=0:=rfl
theorem hd.tw18351415078439624309:0=0:=rfl
theorem hd.tw9864973744126774698:0=0:=rfl
theorem hd.tw14560493823538711346:0=0:=rfl
theorem hd.tw11595982170579460384:0=0:=rfl
theorem hd.tw100483095206116625:0=0:=rfl
theorem hd.tw10763509664835889504:0=0:=rfl
theorem hd.tw16634568088961857937:0=0:=rfl
theorem hd.tw6627881031435992008:0=0:=rfl
theorem hd.tw9398405308114057262:0=0:=rfl
theorem hd.tw7379015992945566340:0=0:=rfl
theorem hd.tw15378359858306647822:0=0:=rfl
theorem hd.tw7174315439194531881:0=0:=rfl
theorem hd.tw5629675986466331604:0=0:=rfl
theorem hd.tw6164396464334811476:0=0:=rfl
theorem hd.tw10919297434634762262:0=0:=rfl
theorem hd.tw17919194246423945575:0=0:=rfl
theorem hd.tw2580477087445282633:0=0:=rfl
theorem hd.tw2101469004524951375:0=0:=rfl
theorem hd.tw7240586211207864342:0=0:=rfl
theorem hd.tw9702936160620672325:0=0:=rfl
theorem hd.tw1870067075039425230:0=0:=rfl
theorem hd.tw14438451200097066615:0=0:=rfl
theorem hd.tw15199589371867527261:0=0:=rfl
theorem hd.tw6469175993241445255:0=0:=rfl
theorem hd.tw9976723597467198900:0=0:=rfl
theorem hd.tw7598622570094877466:0=0:=rfl
theorem hd.tw8934143017859847078:0=0:=rfl
theorem hd.tw12575139184659369484:0=0:=rfl
theorem hd.tw6184208073178115725:0=0:=rfl
theorem hd.tw15422856539912107476:0=0:=rfl
theorem hd.tw11814627755841444246:0=0:=rfl
theorem hd.tw1836080755315867724:0=0:=rfl
theorem hd.tw908340440784498289:0=0:=rfl
theorem hd.tw17330945745186091897:0=0:=rfl
theorem hd.tw12861998865439983172:0=0:=rfl
theorem hd.tw14137390275340422267:0=0:=rfl
theorem hd.tw14120982254508448379:0=0:=rfl
theorem hd.tw11845739042510646663:0=0:=rfl
theorem hd.tw1666387254794493845:0=0:=rfl
theorem hd.tw13855881374063213867:0=0:=rfl
theorem hd.tw1011335219593555734:0=0:=rfl
theorem hd.tw5292301768408028288:0=0:=rfl
theorem hd.tw243823211424636713:0=0:=rfl
theorem hd.tw5899666649113621702:0=0:=rfl
theorem hd.tw7006195865600381663:0=0:=rfl
theorem hd.tw162610821266807592:0=0:=rfl
theorem hd.tw1939978651307754801:0=0:=rfl
theorem hd.tw12659318050587179527:0=0:=rfl
theorem hd.tw8609351116199087170:0=0:=rfl
theorem hd.tw6965799899956892507:0=0:=rfl
theorem hd.tw10834780440838970164:0=0:=rfl
theorem hd.tw6769732088879122475:0=0:=rfl
theorem hd.tw5054737718236178183:0=0:=rfl
theorem hd.tw9155422001095189878:0=0:=rfl
theorem hd.tw12778418089203562962:0=0:=rfl
theorem hd.tw1717729237380139383:0=0:=rfl
theorem hd.tw11119798521548139033:0=0:=rfl
theorem hd.tw13267510147771200024:0=0:=rfl
theorem hd.tw11032806212648032379:0=0:=rfl
theorem hd.tw14906377314874228009:0=0:=rfl
theorem hd.tw8112040973832200146:0=0:=rfl
theorem hd.tw8312999807965096350:0=0:=rfl
theorem hd.tw3452591251010201329:0=0:=rfl
theorem hd.tw10203026625882799534:0=0:=rfl
theorem hd.tw16156708551869547534:0=0:=rfl
theorem hd.tw9132557439983319658:0=0:=rfl
theorem hd.tw12940713784782232206:0=0:=rfl
theorem hd.tw1383871802546835238:0=0:=rfl
theorem hd.tw13277076834127875243:0=0:=rfl
theorem hd.tw15074197538484233485:0=0:=rfl
theorem hd.tw6992766137984940163:0=0:=rfl
theorem hd.tw280609765759037681:0=0:=rfl
theorem hd.tw7023726343779634624:0=0:=rfl
theorem hd.tw1331086792558400476:0=0:=rfl
theorem hd.tw7152984921513172624:0=0:=rfl
theorem hd.tw13315533130655954831:0=0:=rfl
theorem hd.tw7270182246851987180:0=0:=rfl
theorem hd.tw11638043884434779313:0=0:=rfl
theorem hd.tw3309697970292668127:0=0:=rfl
theorem hd.tw1386097877827089520:0=0:=rfl
theorem hd.tw12614811148066621264:0=0:=rfl
theorem hd.tw12872897951434832890:0=0:=rfl
theorem hd.tw1820180628909398317:0=0:=rfl
theorem hd.tw9496365245306024149:0=0:=rfl
theorem hd.tw16661405048812198066:0=0:=rfl
theorem hd.tw5009564483982726761:0=0:=rfl
theorem hd.tw8479784124755550697:0=0:=rfl
theorem hd.tw1976262728313527643:0=0:=rfl
theorem hd.tw11709330566771433103:0=0:=rfl
theorem hd.tw2480057099694739299:0=0:=rfl
theorem hd.tw9502423252354950708:0=0:=rfl
theorem hd.tw15152743547302097792:0=0:=rfl
theorem hd.tw15813434630575017362:0=0:=rfl
theorem hd.tw10283529075043463162:0=0:=rfl
theorem hd.tw5976792059365374437:0=0:=rfl
theorem hd.tw16722109127936396110:0=0:=rfl
theorem hd.tw5535567543195554156:0=0:=rfl
theorem hd.tw3940546777539579641:0=0:=rfl
theorem hd.tw9406673726873002282:0=0:=rfl
theorem hd.tw11402939732021071671:0=0:=rfl
theorem hd.tw5608270528595127837:0=0:=rfl
theorem hd.tw8977460988437922124:0=0:=rfl
theorem hd.tw15625209780758371316:0=0:=rfl
theorem hd.tw2001351230973187099:0=0:=rfl
theorem hd.tw17649441919526076750:0=0:=rfl
theorem hd.tw8516288146210602744:0=0:=rfl
theorem hd.tw922143313871775805:0=0:=rfl
theorem hd.tw14168552714766633299:0=0:=rfl
theorem hd.tw15634565183472343292:0=0:=rfl
theorem hd.tw2578790182627478330:0=0:=rfl
theorem hd.tw10792051664901133789:0=0:=rfl
theorem hd.tw16759147789766475008:0=0:=rfl
theorem hd.tw2391449824757734642:0=0:=rfl
theorem hd.tw313027258313007627:0=0:=rfl
theorem hd.tw17258206423299326598:0=0:=rfl
theorem hd.tw7927469264209771579:0=0:=rfl
theorem hd.tw10117440562283002822:0=0:=rfl
theorem hd.tw9298403506768410418:0=0:=rfl
theorem hd.tw12070051907170230399:0=0:=rfl
theorem hd.tw11256106856564762260:0=0:=rfl
theorem hd.tw3816877163431070358:0=0:=rfl
theorem hd.tw11232374478483605306:0=0:=rfl
theorem hd.tw17562767543260142214:0=0:=rfl
theorem hd.tw7261450039545342454:0=0:=rfl
theorem hd.tw10376703724636587151:0=0:=rfl
theorem hd.tw9990345226319884068:0=0:=rfl
theorem hd.tw6038821095411175016:0=0:=rfl
theorem hd.tw10860895700388868024:0=0:=rfl
theorem hd.tw9345676750909349944:0=0:=rfl
theorem hd.tw546821695630378048:0=0:=rfl
theorem hd.tw16211521421427940678:0=0:=rfl
theorem hd.tw2603259988358896889:0=0:=rfl
theorem hd.tw2999033326186475339:0=0:=rfl
theorem hd.tw12569009150201794078:0=0:=rfl
theorem hd.tw185848376630758926:0=0:=rfl
theorem hd.tw10737712728331077403:0=0:=rfl
theorem hd.tw5366084841770067474:0=0:=rfl
theorem hd.tw16547865195752855329:0=0:=rfl
theorem hd.tw4315991029959535628:0=0:=rfl
theorem hd.tw10614716105012338702:0=0:=rfl
theorem hd.tw9850052858527491113:0=0:=rfl
theorem hd.tw6019021122589006684:0=0:=rfl
theorem hd.tw14444963742821833902:0=0:=rfl
theorem hd.tw1800889605409440832:0=0:=rfl
theorem hd.tw7339039647409124788:0=0:=rfl
theorem hd.tw11126320352707459272:0=0:=rfl
theorem hd.tw1005483496087919985:0=0:=rfl
theorem hd.tw16007149819294483003:0=0:=rfl
theorem hd.tw1728934660973012959:0=0:=rfl
theorem hd.tw4734902545126651661:0=0:=rfl
theorem hd.tw2855845756224970109:0=0:=rfl
theorem hd.tw10365702040365258594:0=0:=rfl
theorem hd.tw13929354066492186541:0=0:=rfl
theorem hd.tw10934634478434655930:0=0:=rfl
theorem hd.tw14151535006965253332:0=0:=rfl
theorem hd.tw9345929723534960622:0=0:=rfl
theorem hd.tw4390796290334881974:0=0:=rfl
theorem hd.tw6449127861642672459:0=0:=rfl
theorem hd.tw17948085552500728524:0=0:=rfl
theorem hd.tw15064902949301533346:0=0:=rfl
theorem hd.tw17054507655720011243:0=0:=rfl
theorem hd.tw5416991563250132298:0=0:=rfl
theorem hd.tw10819331528351526247:0=0:=rfl
theorem hd.tw6877226645827823821:0=0:=rfl
theorem hd.tw4074112789689628901:0=0:=rfl
theorem hd.tw1760603350576429475:0=0:=rfl
theorem hd.tw5927567313105069670:0=0:=rfl
theorem hd.tw18321552122766947510:0=0:=rfl
theorem hd.tw519851828213033955:0=0:=rfl
theorem hd.tw4819202231147424091:0=0:=rfl
theorem hd.tw16868993833207775613:0=0:=rfl
theorem hd.tw9330943631129107780:0=0:=rfl
theorem hd.tw13893168526513508166:0=0:=rfl
theorem hd.tw9184186324627900627:0=0:=rfl
theorem hd.tw13363553139645760527:0=0:=rfl
theorem hd.tw15946356160694317329:0=0:=rfl
theorem hd.tw13122850982685727845:0=0:=rfl
theorem hd.tw4402725079659364252:0=0:=rfl
theorem hd.tw15213948185873263833:0=0:=rfl
theorem hd.tw500953250457666378:0=0:=rfl
theorem hd.tw567884609423149705:0=0:=rfl
theorem hd.tw8226494294326810461:0=0:=rfl
theorem hd.tw10778013660560245624:0=0:=rfl
theorem hd.tw16587392273704687506:0=0:=rfl
theorem hd.tw5021546742003373373:0=0:=rfl
theorem hd.tw16858285156579221889:0=0:=rfl
theorem hd.tw17739348878880393726:0=0:=rfl
theorem hd.tw5810065557313606291:0=0:=rfl
theorem hd.tw15790720579355451973:0=0:=rfl
theorem hd.tw3911173418732280352:0=0:=rfl
theorem hd.tw1643121930917553208:0=0:=rfl
theorem hd.tw13255428261173160881:0=0:=rfl
theorem hd.tw2042292140826266357:0=0:=rfl
theorem hd.tw728884934406724761:0=0:=rfl
theorem hd.tw12611767792052310623:0=0:=rfl
theorem hd.tw15687388767607454252:0=0:=rfl
theorem hd.tw14106227501169856981:0=0:=rfl
theorem hd.tw6418103052136555383:0=0:=rfl
theorem hd.tw13368278939475635651:0=0:=rfl
theorem hd.tw16029623286316568529:0=0:=rfl
theorem hd.tw18358800413957953924:0=0:=rfl
theorem hd.tw155142512498542641:0=0:=rfl
theorem hd.tw13606922415975196911:0=0:=rfl
theorem hd.tw9459050058782445324:0=0:=rfl
theorem hd.tw3451239065008710300:0=0:=rfl
theorem hd.tw9341642984632610673:0=0:=rfl
theorem hd.tw15344866539931968096:0=0:=rfl
theorem hd.tw12704988097186499811:0=0:=rfl
theorem hd.tw18291419657060728153:0=0:=rfl
theorem hd.tw5859118754885311737:0=0:=rfl
theorem hd.tw6824622198901579176:0=0:=rfl
theorem hd.tw15759970867653108152:0=0:=rfl
theorem hd.tw6407587892757256292:0=0:=rfl
theorem hd.tw17034541987677670899:0=0:=rfl
theorem hd.tw8184699220007379433:0=0:=rfl
theorem hd.tw6213412439835118660:0=0:=rfl
theorem hd.tw4086058157674990017:0=0:=rfl
theorem hd.tw14446474709323646786:0=0:=rfl
theorem hd.tw3333446698644548216:0=0:=rfl
theorem hd.tw12521463284412890351:0=0:=rfl
theorem hd.tw4958948430592982816:0=0:=rfl
theorem hd.tw395138700845864316:0=0:=rfl
theorem hd.tw2598446214317162929:0=0:=rfl
theorem hd.tw17429513623812275283:0=0:=rfl
theorem hd.tw10905682514733158466:0=0:=rfl
theorem hd.tw242841246431481386:0=0:=rfl
theorem hd.tw8472141830624432390:0=0:=rfl
theorem hd.tw13132618709999183898:0=0:=rfl
theorem hd.tw4159134105002834734:0=0:=rfl
theorem hd.tw10102539355485613405:0=0:=rfl
theorem hd.tw9228397985900620932:0=0:=rfl
theorem hd.tw7031273417212677730:0=0:=rfl
theorem hd.tw9673543361469618366:0=0:=rfl
theorem hd.tw2799067240506288376:0=0:=rfl
theorem hd.tw9566141503761928105:0=0:=rfl
theorem hd.tw16157073509204512506:0=0:=rfl
theorem hd.tw18421049791903953903:0=0:=rfl
theorem hd.tw3571134770919094901:0=0:=rfl
theorem hd.tw15529170255622000948:0=0:=rfl
theorem hd.tw4642405928176397000:0=0:=rfl
theorem hd.tw7489763959799892387:0=0:=rfl
theorem hd.tw13181700845877081190:0=0:=rfl
theorem hd.tw10558106933452604415:0=0:=rfl
theorem hd.tw16345102440705955213:0=0:=rfl
theorem hd.tw12647368939536790636:0=0:=rfl
theorem hd.tw5378308252288859171:0=0:=rfl
theorem hd.tw7754304195085646258:0=0:=rfl
theorem hd.tw17925215291927510665:0=0:=rfl
theorem hd.tw17430575921969211009:0=0:=rfl
theorem hd.tw11754176132448286083:0=0:=rfl
theorem hd.tw12994019391074448376:0=0:=rfl
theorem hd.tw2783992281797965187:0=0:=rfl
theorem hd.tw1878737405954674963:0=0:=rfl
theorem hd.tw22551697357593593:0=0:=rfl
theorem hd.tw5850991567925798318:0=0:=rfl
theorem hd.tw3795277891434052102:0=0:=rfl
theorem hd.tw18268791191939849864:0=0:=rfl
theorem hd.tw16639802674150441104:0=0:=rfl
theorem hd.tw18235018827726667335:0=0:=rfl
theorem hd.tw7525542149764818722:0=0:=rfl
theorem hd.tw6868836192036940282:0=0:=rfl
theorem hd.tw11801993109049149486:0=0:=rfl
theorem hd.tw5549315172176941698:0=0:=rfl
theorem hd.tw2042874687063273074:0=0:=rfl
theorem hd.tw6547078798241139092:0=0:=rfl
theorem hd.tw9533747618267967006:0=0:=rfl
theorem hd.tw13475242022060392486:0=0:=rfl
theorem hd.tw7355570028127101125:0=0:=rfl
theorem hd.tw3694398316872202419:0=0:=rfl
theorem hd.tw10601615944963115059:0=0:=rfl
theorem hd.tw10678649693572172417:0=0:=rfl
theorem hd.tw12268275109542032366:0=0:=rfl
theorem hd.tw7144693031159200931:0=0:=rfl
theorem hd.tw8811097733284410319:0=0:=rfl
theorem hd.tw361874862225718299:0=0:=rfl
theorem hd.tw9813410681712176819:0=0:=rfl
theorem hd.tw5667655126489319660:0=0:=rfl
theorem hd.tw8381844023166312768:0=0:=rfl
theorem hd.tw4971549296188076032:0=0:=rfl
theorem hd.tw17177331786930743035:0=0:=rfl
theorem hd.tw4916360252006170105:0=0:=rfl
theorem hd.tw17252143746492648416:0=0:=rfl
theorem hd.tw17377529257436501650:0=0:=rfl
theorem hd.tw18252017834820373320:0=0:=rfl
theorem hd.tw12459740579856956213:0=0:=rfl
theorem hd.tw17001982702790524580:0=0:=rfl
theorem hd.tw17876089906941426215:0=0:=rfl
theorem hd.tw13217827037086042188:0=0:=rfl
theorem hd.tw6184460063843016694:0=0:=rfl
theorem hd.tw1582976572388173787:0=0:=rfl
theorem hd.tw5343241284826551009:0=0:=rfl
theorem hd.tw511748877826530558:0=0:=rfl
theorem hd.tw12870888531099404533:0=0:=rfl
theorem hd.tw15610959940260225430:0=0:=rfl
theorem hd.tw2323474266016966308:0=0:=rfl
theorem hd.tw1147470481896660410:0=0:=rfl
theorem hd.tw7578210074245671484:0=0:=rfl
theorem hd.tw6264232113106981867:0=0:=rfl
theorem hd.tw3660579746685279459:0=0:=rfl
theorem hd.tw4702841417184801058:0=0:=rfl
theorem hd.tw2739504486584576224:0=0:=rfl
theorem hd.tw3386092968808520798:0=0:=rfl
theorem hd.tw13619402905963910902:0=0:=rfl
theorem hd.tw11136197038861592535:0=0:=rfl
theorem hd.tw18293732401869909652:0=0:=rfl
theorem hd.tw3704167492566942397:0=0:=rfl
theorem hd.tw5247051413645994129:0=0:=rfl
theorem hd.tw3496965988886986938:0=0:=rfl
theorem hd.tw16477043939570097188:0=0:=rfl
theorem hd.tw13262116225945230012:0=0:=rfl
theorem hd.tw3229955645248102723:0=0:=rfl
theorem hd.tw10603584201595350602:0=0:=rfl
theorem hd.tw15948780112781908787:0=0:=rfl
theorem hd.tw17992175057805443440:0=0:=rfl
theorem hd.tw10357175440086982646:0=0:=rfl
theorem hd.tw8317466277049474617:0=0:=rfl
theorem hd.tw10613586106871329381:0=0:=rfl
theorem hd.tw1513381835672226130:0=0:=rfl
theorem hd.tw9449672872311958731:0=0:=rfl
theorem hd.tw17143205804819765802:0=0:=rfl
theorem hd.tw7702882491108231240:0=0:=rfl
theorem hd.tw2887051446865420828:0=0:=rfl
theorem hd.tw10806950440038215891:0=0:=rfl
theorem hd.tw1051681510052472703:0=0:=rfl
theorem hd.tw9657781627882305391:0=0:=rfl
theorem hd.tw2068664650715991707:0=0:=rfl
theorem hd.tw4788038989552484473:0=0:=rfl
theorem hd.tw10778257442750969130:0=0:=rfl
theorem hd.tw13532847315355080253:0=0:=rfl
theorem hd.tw9215163618515126356:0=0:=rfl
theorem hd.tw1771065673167922378:0=0:=rfl
theorem hd.tw5190246844813560578:0=0:=rfl
theorem hd.tw8902478645137244967:0=0:=rfl
theorem hd.tw17956543221229664512:0=0:=rfl
theorem hd.tw13315304624776755853:0=0:=rfl
theorem hd.tw14852329139284432860:0=0:=rfl
theorem hd.tw9476321141362543215:0=0:=rfl
theorem hd.tw8356816923877370021:0=0:=rfl
theorem hd.tw9513423893830186035:0=0:=rfl
theorem hd.tw4297731678662094536:0=0:=rfl
theorem hd.tw16432713993328977331:0=0:=rfl
theorem hd.tw12629568148972539762:0=0:=rfl
theorem hd.tw6755925336976613232:0=0:=rfl
theorem hd.tw3913528116038191188:0=0:=rfl
theorem hd.tw5747965178634630639:0=0:=rfl
theorem hd.tw4654797750381630734:0=0:=rfl
theorem hd.tw16826083622388986153:0=0:=rfl
theorem hd.tw17070941380808615275:0=0:=rfl
theorem hd.tw12113243949977362033:0=0:=rfl
theorem hd.tw15697423400787487869:0=0:=rfl
theorem hd.tw10835030195340973342:0=0:=rfl
theorem hd.tw8228950375871286339:0=0:=rfl
theorem hd.tw12832683148521936107:0=0:=rfl
theorem hd.tw6615107907471364465:0=0:=rfl
theorem hd.tw18370931923303237609:0=0:=rfl
theorem hd.tw6394381022753523788:0=0:=rfl
theorem hd.tw6181573660694698118:0=0:=rfl
theorem hd.tw4068527845204499245:0=0:=rfl
theorem hd.tw17062030032774818151:0=0:=rfl
theorem hd.tw12337632362937886050:0=0:=rfl
theorem hd.tw11283319371284918911:0=0:=rfl
theorem hd.tw2252305205657439004:0=0:=rfl
theorem hd.tw5643178794243155062:0=0:=rfl
theorem hd.tw7526368328331116154:0=0:=rfl
theorem hd.tw18095200977026478895:0=0:=rfl
theorem hd.tw14440960662653809013:0=0:=rfl
theorem hd.tw11551083187376567056:0=0:=rfl
theorem hd.tw10424393626065333798:0=0:=rfl
theorem hd.tw578887228443019578:0=0:=rfl
theorem hd.tw678209747344391502:0=0:=rfl
theorem hd.tw5486487638281291605:0=0:=rfl
theorem hd.tw14685462170515437407:0=0:=rfl
theorem hd.tw3429492842335990350:0=0:=rfl
end
end Mine
set_option Elab.async true
set_option maxRecDepth 100000
set_option maxHeartbeats 8000000
section
open PySem PySem.W PyProof.Rows
theorem Mine.hd:PySem.Challenge.rw_te0040_02.Holds:=by
 w_on;o_law;(o_head (kHook Mine.k0.heap_1_1 [2,3,15,20,25,30,31,34,35,36,39,41,42,43,50,52,53,55,56,57,59,60,62,63,64,65,66,67,68,71,73,74,76,77,78,85,87,88,90,91,92,94,95,97,98,99,101,102,104,105,106,108,109,111,112,113,115,116,118,119,120,122,123,125,126,127,128,130,131,133,134,135,137,138,140,141,142,143,145,146,148,149,150,152,153,155,156,157,158,159,160,161,164,165,167,168,170,171,172,179,181,182,184,185,186,188,189,191,192,193,195,196,198,199,200,202,203,205,206,207,209,210,212,213,214,216,217,219,220,221,222,223,224,225,228,229,236,239,240,247,248,250,251,253,254,255,257,258,260,261,262,264,265,267,268,269,270,272,273,275,276,277,279,280,282,283,284,286,287,289,290,291,293,294,296,297,298,300,301,303,304,305,307,308,310,311,312,314,315,317,318,319,321,322,324,325,326,328,329,331,332,333,335,336,338,339,340,342,343,345,346,347,349,350,352,353,354,356,357,359,360,361,363,364,366,367,368,370,371,373,374,375,377,378,380,381,382,384,385,387,388,389,391,392,394,395,396,398,399,401,402,403,405,406,408,409,410,412,413,415,416,417,419,420,422,423,424,426,427,429,430,431,433,434,436,437,438,440,441,443,444,445,447,448,450,451,452,454,455,457,458,459,461,462,464,465,466,468,469,471,472,473,475,476,478,479,480,482,483,485,486,487,489,490,492,493,494,496,497,499,500,501,503,504,506,507,508,510,511,513,514,515,517,518,520,521,522,524,525,527,528,529,531,532,534,535,536,538,539,541,542,543,545,546,548,549,550,552,553,555,556,557,559,560,562,563,564,566,567,569,570,571,573,574,576,577,578,580,581,583,584,585,587,588,590,591,592,594,595,597,598,599,601,602,604,605,606,608,609,611,612,613,615,616,618,619,620,622,623,625,626,627,629,630,632,633,634,636,637,639,640,641,643,644,646,647,648,650,651,653,654,655,657,658,660,661,662,664,665,667,668,669,671,672,674,675,676,678,679,681,682,683,685,686,688,689,690,692,693,695,696,697,699,700,702,703,704,706,707,709,710,711,713,714,716,717,718,720,721,723,724,725,727,728,730,731,732,734,735,737,738,739,741,742,744,745,746,748,749,751,752,753,754,755,756,757,760,762,763,765,766,767,768,770,771,773,774,775,778,779,780,783,784,785,787,788,790,791,792,794,795,797,798,799,801,802,804,805,806,808,809,811,812,813,816,817] (fun _=>by kernel_rfl)));(case hw=>w_witness2)
 intro w s₀ s₁ mg mb G Y fa o pm cd doc dV kV ho hd hcd hD hmg hg args vals as hpre hlay hrd hwl hlo
 have KX:=kIn_of Y
 have T:=G.T
 clear G hD Y hcd ho hd
 wrow_args hpre hlay hrd hwl hlo
 have e:=hmg.symm.trans (PySem.W.mg_of KX T.g (Mine.at3 _))
 clear hmg
 cases e
 refine Mine.law_end3 T KX (by decide +kernel) hg (by assumption) (by assumption) (Int.ofNat_le.mp (Int.not_lt.mp (by assumption))) (fun _=>rfl) ?_
 first|rfl|wrow_post
end
end
theorem PySem.Challenge.cw_te0040_02_holds : PySem.Challenge.rw_te0040_02.Holds :=
 Mine.hd
