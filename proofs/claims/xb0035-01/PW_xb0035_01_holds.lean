import PyProof.Rows.All
import Open.Pieces
import OpenK.AllK
import Wide.FinOn
import Wide.All
import KE.KDictList
import KE.KEqDict
import PyProof.AttrMissHeap
import PyProof.StrLawsTight
import Lean
import PySem.Challenge.RW_xb0035_01
set_option Elab.async false
set_option maxRecDepth 1000000
set_option maxHeartbeats 4000000
set_option linter.all false
set_option tactic.hygienic false
noncomputable section
namespace Mine.Internal
set_option genSizeOf false
set_option genInjectivity false
section
abbrev ar:=List Nat
def iF:=@Int.zero_add
def gp:=@Int.add_zero
def qR:=@Nat.add_right_comm
def aC:=@List.mem_cons
def bF:=@List.mem_append
def jv:=@Int.not_lt
def af:=@if_neg
def qL:=@Nat.succ_ne_zero
def ag:=@if_pos
def qS:=@Nat.add_sub_cancel
def gN:=@Int.ofNat_le
def ak:=@congrArg
def cc:=@Nat.zero_add
def f6:=@List.mem_flatMap
def aY:=@List.mem_map
def kN:=@Nat.le_add_left
def j5:=@List.mem_append_left
def iD:=@List.mem_append_right
def vI:=@Classical.byContradiction
def kQ:=@Int.natCast_nonneg
def kJ:=@List.all_cons
def bp:=@Bool.and_eq_true
namespace Q
inductive T where
 |v (i:Nat)|c (n:Nat)|u (k i:Nat) (a:T)|b (k:Nat) (a b:T)
inductive F where
 |r (k:Nat) (a b:T)|n (a:F)|b (k:Nat) (a b:F)|z (t:Bool)
noncomputable abbrev P:=List Int
variable(N:ar) (I:List Int)
noncomputable def T.d:T->Nat×Int
 | .v i=>(N.getD i 0,I.getD i 0)
 | .c n=>(n,Int.ofNat n)
 | .u k i x=>match k with
  |0=>(i*x.d.1,Int.ofNat i*x.d.2)
  |1=>(x.d.1*i,x.d.2*Int.ofNat i)
  |2=>(x.d.1,-x.d.2)
  |3=>(x.d.1,((x.d.1:Nat):Int))
  |4=>(x.d.1.succ,x.d.2)
  |5=>(x.d.2.toNat,x.d.2)
  |_=>(x.d.2.natAbs,x.d.2)
 | .b k x y=>match k with
  |0=>(x.d.1+y.d.1,x.d.2+y.d.2)
  |1=>(x.d.1-y.d.1,x.d.2-y.d.2)
  |2=>(min x.d.1 y.d.1,min x.d.2 y.d.2)
  |_=>(max x.d.1 y.d.1,max x.d.2 y.d.2)
def F.d:F->Prop
 | .r k x y=>match k with
  |0=>(x.d N I).1<=(y.d N I).1
  |1=>(x.d N I).1<(y.d N I).1
  |2=>(x.d N I).1=(y.d N I).1
  |3=>(x.d N I).2<=(y.d N I).2
  |4=>(x.d N I).2<(y.d N I).2
  |_=>(x.d N I).2=(y.d N I).2
 | .n x=>¬x.d
 | .b k x y=>match k with
  |0=>x.d/\y.d
  |1=>x.d\/y.d
  |2=>x.d->y.d
  |_=>x.d↔y.d
 | .z x=>match x with|true=>True|false=>False
noncomputable def pT:Nat->Nat->T×Nat
 |0,x=>(.c 0,x)
 |f+1,x=>match x %16 with
  |0=>(.v (x/16 %16),x/256)
  |1=>(.c (x/16 %16),x/256)
  |2=>(.c (x/16 %4294967296),x/68719476736)
  |3=>let a:=pT f (x/256);(.u (x/16 %16) 0 a.1,a.2)
  |4=>let a:=pT f (x/65536);(.u (x/16 %16) (x/256 %256) a.1,a.2)
  |k=>let a:=pT f (x/16);let b:=pT f a.2;(.b (k-5) a.1 b.1,b.2)
def pF:Nat->Nat->F×Nat
 |0,x=>(.z true,x)
 |f+1,x=>match x %16 with
  |6=>let a:=pF f (x/16);(.n a.1,a.2)
  |7=>let a:=pF f (x/16);let b:=pF f a.2;(.b 0 a.1 b.1,b.2)
  |8=>let a:=pF f (x/16);let b:=pF f a.2;(.b 1 a.1 b.1,b.2)
  |9=>let a:=pF f (x/16);let b:=pF f a.2;(.b 2 a.1 b.1,b.2)
  |10=>let a:=pF f (x/16);let b:=pF f a.2;(.b 3 a.1 b.1,b.2)
  |11=>(.z false,x/16)
  |12=>(.z true,x/16)
  |k=>let a:=pT 20 (x/16);let b:=pT 20 a.2;(.r k a.1 b.1,b.2)
noncomputable def pa:P->P->P
 |[],q=>q
 |a::p,q=>(a+q.headD 0)::pa p q.tail
noncomputable def ps (k:Int) (p:P):P:=p.map (k*·)
def sb (p q:P):P:=pa p (ps (-1) q)
noncomputable def un:Nat->P
 |0=>[1]
 |k+1=>0::un k
def comb (s:Bool) (k:Nat) (p q:P):List (List P×P):=
 match k with
 |0=>[([],pa p q)]
 |1=>if s then[([],sb p q)]else[([sb p q],sb p q),([sb q p],[])]
 |2=>[([sb q p],p),([sb p q],q)]
 |_=>[([sb q p],q),([sb p q],p)]
noncomputable def srt (s:Bool) (k:Nat):Bool:=match k with|3=>false|0=>s|1=>s|2=>s|4=>s|_=>true
def uno (s:Bool) (k i:Nat) (p:P):List (List P×P):=
 match k with
 |0=>[([],ps i p)]
 |1=>[([],ps i p)]
 |2=>[([],if s then ps (-1) p else p)]
 |3=>[([],p)]
 |4=>[([],if s then p else pa p [1])]
 |5=>if s then[([],p)]else[([sb p []],p),([sb [] p],[])]
 |_=>if s then[([],p)]else[([sb p []],p),([sb [] p],sb [] p)]
def nO:Bool->T->List (List P×P)
 |s,.v i=>[([],un (if s then 2*i+2 else 2*i+1))]
 |_,.c n=>[([],[(n:Int)])]
 |s,.u k i a=>(nO (srt s k) a).flatMap λx=>(uno s k i x.2).map λz=>(z.1++x.1,z.2)
 |s,.b k a b=>(nO s a).flatMap λx=>(nO s b).flatMap λy=>(comb s k x.2 y.2).map λz=>(z.1++(x.1++y.1),z.2)
def rel (k:Nat) (t:Bool) (p q:P):List (List P):=
 match k,t with
 |0,true=>[[sb q p]]
 |0,false=>[[pa (sb p q) [-1]]]
 |1,true=>[[pa (sb q p) [-1]]]
 |1,false=>[[sb p q]]
 |_,true=>[[sb p q,sb q p]]
 |_,false=>[[pa (sb p q) [-1]],[pa (sb q p) [-1]]]
noncomputable def pr (a b:List (List P)):List (List P):=a.flatMap λx=>b.map λy=>x++y
def sN:F->Bool->List (List P)
 | .r k a b,t=>(nO (Nat.ble 3 k) a).flatMap λx=>(nO (Nat.ble 3 k) b).flatMap λy=>(rel (Nat.min k 5 %3) t x.2 y.2).map λz=>z++(x.1++y.1)
 | .n a,t=>sN a !t
 | .b k a b,t=>match k,t with
  |0,true=>pr (sN a true) (sN b true)
  |0,false=>sN a false++sN b false
  |1,true=>sN a true++sN b true
  |1,false=>pr (sN a false) (sN b false)
  |2,true=>sN a false++sN b true
  |2,false=>pr (sN a true) (sN b false)
  |_,true=>pr (sN a true) (sN b true)++pr (sN a false) (sN b false)
  |_,false=>pr (sN a true) (sN b false)++pr (sN a false) (sN b true)
 | .z b,t=>if b==t then[[]]else[]
def cm:List P->Nat->P
 |[],_=>[]
 |p::cs,m=>pa (ps ((m %16:Nat):Int) p) (cm cs (m/16))
noncomputable def ng (p:P):Bool:=decide (p.headD 0<0)&&p.tail.all (·==0)
def ck (z:List P):List (List P)->Nat->Bool
 |[],_=>true
 |b::bs,m=>ng (cm (b++z) m)&&ck z bs (m/16^(b++z).length)
def nn:Nat->List P
 |0=>[]
 |k+1=>nn k++[un (2*k+1)]
section
variable(E:Nat->Int)
noncomputable def ev:P->Nat->Int
 |[],_=>0
 |c::p,k=>c*E k+ev p (k+1)
theorem zF:∀(p q:P) (k:Nat),ev E (pa p q) k=ev E p k+ev E q k
 |[],q,k=>(iF _).symm
 |a::p,q,k=>by
  show(a+q.headD 0)*E k+ev E (pa p q.tail) (k+1)=a*E k+ev E p (k+1)+ev E q k
  rw[zF,Int.add_mul]
  cases q with
  |nil=>show a*E k+0*E k+(_+0)=_+0;rw[Int.zero_mul,gp,gp,gp]
  |cons b q=>show a*E k+b*E k+(_+_)=_+(b*E k+_);ac_rfl
theorem sS (c:Int):∀(p:P) (k:Nat),ev E (ps c p) k=c*ev E p k
 |[],k=>(Int.mul_zero _).symm
 |a::p,k=>by
  show c*a*E k+ev E (ps c p) (k+1)=c*(a*E k+ev E p (k+1))
  rw[sS,Int.mul_add,Int.mul_assoc]
theorem CV:∀(j k:Nat),ev E (un j) k=E (k+j)
 |0,k=>by show 1*E k+0=_;rw[Int.one_mul,gp];rfl
 |j+1,k=>by show 0*E k+ev E (un j) (k+1)=_;rw[CV,Int.zero_mul,iF,qR];rfl
theorem zE (p q:P):ev E (sb p q) 0=ev E p 0-ev E q 0:=by rw[sb,zF,sS,Int.neg_one_mul];rfl
def H (cs:List P):Prop:=∀p∈cs,0<=ev E p 0
theorem H.nil:H E []:=nofun
theorem H.cons {p:P} {cs:List P} (a:0<=ev E p 0) (h:H E cs):H E (p::cs):=λq m=>(aC.1 m).elim (λe=>e▸a) (h q)
theorem H.app {a b:List P} (x:H E a) (y:H E b):H E (a++b):=λq m=>(bF.1 m).elim (x q) (y q)
theorem H.of {p q:P} (h:ev E q 0<=ev E p 0):H E [sb p q]:=.cons E (by rw[zE];exact Int.sub_nonneg.2 h) (.nil E)
variable(E1:E 0=1)
include E1
theorem V1 (c:Int):ev E [c] 0=c:=by show c*E 0+0=c;rw[E1,Int.mul_one,gp]
theorem V2 (p:P) (c:Int):ev E (pa p [c]) 0=ev E p 0+c:=by rw[zF,V1 E E1]
theorem H.lt {p q:P} (h:ev E q 0<ev E p 0):H E [pa (sb p q) [-1]]:=.cons E (by rw[V2 E E1,zE];exact Int.le_sub_one_of_lt (Int.sub_pos.2 h)) (.nil E)
theorem GX (p q:P):∀k,((match k with|0=>ev E p 0<=ev E q 0|1=>ev E p 0<ev E q 0|_=>ev E p 0=ev E q 0)->∃z∈rel k true p q,H E z)/\(¬(match k with|0=>ev E p 0<=ev E q 0|1=>ev E p 0<ev E q 0|_=>ev E p 0=ev E q 0)->∃z∈rel k false p q,H E z)
 |0=>⟨λh=>⟨_,.head _,.of E h⟩,λh=>⟨_,.head _,.lt E E1 (Int.not_le.1 h)⟩⟩
 |1=>⟨λh=>⟨_,.head _,.lt E E1 h⟩,λh=>⟨_,.head _,.of E (jv.1 h)⟩⟩
 |_+2=>⟨λh=>⟨_,.head _,.app E (.of E (Int.le_of_eq h.symm)) (.of E (Int.le_of_eq h))⟩,λh=>(Int.lt_or_gt_of_ne h).elim (λh=>⟨_,.tail _ (.head _),.lt E E1 h⟩) λh=>⟨_,.head _,.lt E E1 h⟩⟩
end
noncomputable def e (k:Nat):Int:=if k=0 then 1 else if k %2=1 then((N.getD (k/2) 0:Nat):Int)else I.getD (k/2-1) 0
theorem e_n (i:Nat):e N I (2*i+1)=((N.getD i 0:Nat):Int):=by
 rw[e,af (qL _),ag (Nat.mul_add_mod ..),show(2*i+1)/2=i from Nat.mul_add_div (by decide) ..]
theorem e_i (i:Nat):e N I (2*i+2)=I.getD i 0:=by
 rw[e,af (qL _),af (by rw[show 2*i+2=2*(i+1)from rfl,Nat.mul_mod_right];decide),show 2*i+2=2*(i+1)from rfl,Nat.mul_div_cancel_left _ (by decide),qS]
def val:Bool->T->Int
 |true,t=>(t.d N I).2
 |false,t=>((t.d N I).1:Nat)
theorem MK (s:Bool) (x y:T) (p q:P) (hp:ev (e N I) p 0=val N I s x) (hq:ev (e N I) q 0=val N I s y):∀k,∃z∈comb s k p q,H (e N I) z.1/\ev (e N I) z.2 0=val N I s (.b k x y)
 |0=>⟨_,.head _,.nil _,by rw[zF,hp,hq];cases s<;>rfl⟩
 |1=>by
  cases s with
  |true=>exact⟨_,.head _,.nil _,by rw[zE,hp,hq];rfl⟩
  |false=>
   rcases Nat.le_total (y.d N I).1 (x.d N I).1 with h|h
   ·exact⟨_,.head _,.of _ (by rw[hp,hq];exact gN.2 h),by rw[zE,hp,hq];exact(Int.ofNat_sub h).symm⟩
   ·exact⟨_,.tail _ (.head _),.of _ (by rw[hp,hq];exact gN.2 h),ak Int.ofNat (Nat.sub_eq_zero_of_le h).symm⟩
 |2=>by
  rcases Int.le_total (val N I s x) (val N I s y)with h|h
  ·refine⟨_,.head _,.of _ (by rw[hp,hq];exact h),hp.trans ?_⟩
   cases s with
   |true=>exact(Int.min_eq_left h).symm
   |false=>exact ak Int.ofNat (Nat.min_eq_left (gN.1 h)).symm
  ·refine⟨_,.tail _ (.head _),.of _ (by rw[hp,hq];exact h),hq.trans ?_⟩
   cases s with
   |true=>exact(Int.min_eq_right h).symm
   |false=>exact ak Int.ofNat (Nat.min_eq_right (gN.1 h)).symm
 |_+3=>by
  rcases Int.le_total (val N I s x) (val N I s y)with h|h
  ·refine⟨_,.head _,.of _ (by rw[hp,hq];exact h),hq.trans ?_⟩
   cases s with
   |true=>exact(Int.max_eq_right h).symm
   |false=>exact ak Int.ofNat (Nat.max_eq_right (gN.1 h)).symm
  ·refine⟨_,.tail _ (.head _),.of _ (by rw[hp,hq];exact h),hp.trans ?_⟩
   cases s with
   |true=>exact(Int.max_eq_left h).symm
   |false=>exact ak Int.ofNat (Nat.max_eq_left (gN.1 h)).symm
theorem Vj:e N I 0=1:=rfl
theorem P6 (i:Nat) (x:T) (p:P):∀(s:Bool) (k:Nat),ev (e N I) p 0=val N I (srt s k) x->∃z∈uno s k i p,H (e N I) z.1/\ev (e N I) z.2 0=val N I s (.u k i x)
 |true,0,h=>⟨_,.head _,.nil _,by rw[sS,h];rfl⟩
 |false,0,h=>⟨_,.head _,.nil _,by rw[sS,h];rfl⟩
 |true,1,h=>⟨_,.head _,.nil _,by rw[sS,h,Int.mul_comm];rfl⟩
 |false,1,h=>⟨_,.head _,.nil _,by rw[sS,h,Int.mul_comm];rfl⟩
 |true,2,h=>⟨_,.head _,.nil _,by show ev _ (ps (-1) p) 0=_;rw[sS,h,Int.neg_one_mul];rfl⟩
 |false,2,h=>⟨_,.head _,.nil _,h⟩
 |true,3,h=>⟨_,.head _,.nil _,h⟩
 |false,3,h=>⟨_,.head _,.nil _,h⟩
 |true,4,h=>⟨_,.head _,.nil _,h⟩
 |false,4,h=>⟨_,.head _,.nil _,by show ev _ (pa p [1]) 0=_;rw[V2 _ (Vj N I),h];rfl⟩
 |true,5,h=>⟨_,.head _,.nil _,h⟩
 |true,_+6,h=>⟨_,.head _,.nil _,h⟩
 |false,5,h=>(Int.le_total 0 (x.d N I).2).elim (λg=>⟨_,.head _,.of _ (h.symm▸g),h.trans (Int.toNat_of_nonneg g).symm⟩) λg=>⟨_,.tail _ (.head _),.of _ (h.symm▸g),ak Int.ofNat (Int.toNat_of_nonpos g).symm⟩
 |false,_+6,h=>(Int.le_total 0 (x.d N I).2).elim (λg=>⟨_,.head _,.of _ (h.symm▸g),h.trans (Int.natAbs_of_nonneg g).symm⟩) λg=>⟨_,.tail _ (.head _),.of _ (h.symm▸g),(zE ..).trans ((Int.zero_sub _).trans ((ak Neg.neg h).trans (Int.ofNat_natAbs_of_nonpos g).symm))⟩
theorem uT:∀(t:T) (s:Bool),∃x∈nO s t,H (e N I) x.1/\ev (e N I) x.2 0=val N I s t
 | .v i,s=>⟨_,.head _,.nil _,by
  cases s with
  |true=>exact(CV ..).trans ((ak (e N I) (cc _)).trans (e_i N I i))
  |false=>exact(CV ..).trans ((ak (e N I) (cc _)).trans (e_n N I i))⟩
 | .c n,s=>⟨_,.head _,.nil _,by rw[V1 _ (Vj N I)];cases s<;>rfl⟩
 | .u k i a,s=>(uT a (srt s k)).elim λx h=>(P6 N I i a _ s k h.2.2).elim λz w=>⟨_,f6.2 ⟨x,h.1,aY.2 ⟨z,w.1,rfl⟩⟩,.app _ w.2.1 h.2.1,w.2.2⟩
 | .b k a b,s=>(uT a s).elim λx h=>(uT b s).elim λy g=>(MK N I s a b _ _ h.2.2 g.2.2 k).elim λz w=>
  ⟨_,f6.2 ⟨x,h.1,f6.2 ⟨y,g.1,aY.2 ⟨z,w.1,rfl⟩⟩⟩,.app _ w.2.1 (.app _ h.2.1 g.2.1),w.2.2⟩
theorem VD (k:Nat) (a b:T) (t:Bool) (f:∀p q,ev (e N I) p 0=val N I (Nat.ble 3 k) a->ev (e N I) q 0=val N I (Nat.ble 3 k) b->∃z∈rel (Nat.min k 5 %3) t p q,H (e N I) z):∃z∈sN (.r k a b) t,H (e N I) z:=
 (uT N I a (Nat.ble 3 k)).elim λx h=>(uT N I b (Nat.ble 3 k)).elim λy g=>(f _ _ h.2.2 g.2.2).elim λz w=>
  ⟨_,f6.2 ⟨x,h.1,f6.2 ⟨y,g.1,aY.2 ⟨z,w.1,rfl⟩⟩⟩,.app _ w.2 (.app _ h.2.1 g.2.1)⟩
theorem VE (p q:P) (a b:T):∀k,ev (e N I) p 0=val N I (Nat.ble 3 k) a->ev (e N I) q 0=val N I (Nat.ble 3 k) b->(F.d N I (.r k a b)↔(match Nat.min k 5 %3 with|0=>ev (e N I) p 0<=ev (e N I) q 0|1=>ev (e N I) p 0<ev (e N I) q 0|_=>ev (e N I) p 0=ev (e N I) q 0))
 |0,h,g=>by rw[h,g];exact gN.symm
 |1,h,g=>by rw[h,g];exact Int.ofNat_lt.symm
 |2,h,g=>by rw[h,g];exact Int.ofNat_inj.symm
 |3,h,g=>by rw[h,g];exact .rfl
 |4,h,g=>by rw[h,g];exact .rfl
 |k+5,h,g=>by rw[h,g,show Nat.min (k+5) 5=5 from Nat.min_eq_right (kN ..)];exact .rfl
theorem uE {a b:List (List P)} (x:∃z∈a,H (e N I) z) (y:∃z∈b,H (e N I) z):∃z∈pr a b,H (e N I) z:=
 x.elim λx h=>y.elim λy g=>⟨_,f6.2 ⟨x,h.1,aY.2 ⟨y,g.1,rfl⟩⟩,.app _ h.2 g.2⟩
theorem uY {a b:List (List P)} (x:∃z∈a,H (e N I) z):∃z∈a++b,H (e N I) z:=x.elim λx h=>⟨x,j5 _ h.1,h.2⟩
theorem uX {a b:List (List P)} (x:∃z∈b,H (e N I) z):∃z∈a++b,H (e N I) z:=x.elim λx h=>⟨x,iD _ h.1,h.2⟩
theorem u0:∀f:F,(f.d N I->∃z∈sN f true,H (e N I) z)/\(¬f.d N I->∃z∈sN f false,H (e N I) z)
 | .r k a b=>⟨λh=>VD N I k a b true λp q x y=>(GX _ (Vj N I) p q _).1 ((VE N I p q a b k x y).1 h),λh=>VD N I k a b false λp q x y=>(GX _ (Vj N I) p q _).2 λg=>h ((VE N I p q a b k x y).2 g)⟩
 | .n a=>⟨λh=>(u0 a).2 h,λh=>(u0 a).1 (Classical.not_not.1 h)⟩
 | .z true=>⟨λU=>⟨_,.head _,.nil _⟩,λh=>absurd trivial h⟩
 | .z false=>⟨λh=>h.elim,λU=>⟨_,.head _,.nil _⟩⟩
 | .b k a b=>by
  have x:=u0 a
  have y:=u0 b
  match k with
  |0=>exact⟨λh=>uE N I (x.1 h.1) (y.1 h.2),λh=>(Classical.not_and_iff_not_or_not.1 h).elim (λh=>uY N I (x.2 h)) λh=>uX N I (y.2 h)⟩
  |1=>exact⟨λh=>h.elim (λh=>uY N I (x.1 h)) λh=>uX N I (y.1 h),λh=>uE N I (x.2 λg=>h (.inl g)) (y.2 λg=>h (.inr g))⟩
  |2=>exact⟨λh=>(Classical.em (a.d N I)).elim (λg=>uX N I (y.1 (h g))) λg=>uY N I (x.2 g),λh=>(Classical.not_imp.1 h).elim λg i=>uE N I (x.1 g) (y.2 i)⟩
  |_+3=>exact⟨λh=>(Classical.em (a.d N I)).elim (λg=>uY N I (uE N I (x.1 g) (y.1 (h.1 g)))) λg=>uX N I (uE N I (x.2 g) (y.2 λi=>g (h.2 i))),
    λh=>(Classical.em (a.d N I)).elim (λg=>uY N I (uE N I (x.1 g) (y.2 λi=>h ⟨λU=>i,λU=>g⟩))) λg=>uX N I (uE N I (x.2 g) (y.1 (vI λi=>h ⟨λj=>absurd j g,λj=>absurd j i⟩)))⟩
theorem Oh (E:Nat->Int):∀(cs:List P) (m:Nat),H E cs->0<=ev E (cm cs m) 0
 |[],_,_=>Int.le_refl _
 |p::cs,m,h=>by
  show 0<=ev E (pa (ps _ p) (cm cs _)) 0
  rw[zF,sS]
  exact Int.add_nonneg (Int.mul_nonneg (kQ _) (h p (.head _))) (Oh E cs _ λq m=>h q (.tail _ m))
theorem V0 (E:Nat->Int):∀(p:P) (k:Nat),(p.all (·==0))=true->ev E p k=0
 |[],_,_=>rfl
 |a::p,k,h=>by
  rw[kJ,bp]at h
  show a*E k+_=0
  rw[eq_of_beq h.1,V0 E p _ h.2,Int.zero_mul];rfl
theorem X2 (E:Nat->Int) (E1:E 0=1):∀p:P,ng p=true->ev E p 0<0
 |[],h=>absurd (bp .. ▸h).1 (by decide)
 |a::p,h=>by
  have h:=bp _ _▸h
  show a*E 0+ev E p 1<0
  rw[E1,V0 E p 1 h.2,Int.mul_one,gp]
  exact of_decide_eq_true h.1
theorem NI:∀k,H (e N I) (nn k)
 |0=>.nil _
 |k+1=>.app _ (NI k) (.cons _ (by rw[CV,cc,e_n];exact kQ _) (.nil _))
theorem C5 (z:List P) (hz:H (e N I) z):∀(b:List (List P)) (c:Nat),ck z b c=true->∀x∈b,¬H (e N I) x
 |b::bs,c,h,x,m,g=>by
  have h:=bp _ _▸h
  rcases aC.1 m with q|q
  ·subst q
   exact absurd (Oh _ _ _ (g.app _ hz)) (Int.not_le.2 (X2 _ (Vj N I) _ h.1))
  ·exact C5 z hz bs _ h.2 x q g
theorem ok (f:Nat) (h:ck (nn N.length) (sN (pF 40 f).1 false) (pF 40 f).2=true:=by kernel_rfl):(pF 40 f).1.d N I:=
 vI λg=>((u0 N I (pF 40 f).1).2 g).elim λx m=>C5 N I _ (NI N I _) _ _ h x m.1 m.2
theorem o (f:Nat) (h:ck (nn N.length) (sN (pF 40 f).1 false) (pF 40 f).2=true:=by kernel_rfl):(pF 40 f).1.d N []:=ok N [] f h
end Q
end
theorem Z14{a b c d:Int}:a+b+(c+d)=a+c+(b+d):=Q.ok [] [a,b,c,d] 0x1130105200055302051000555
theorem Z16{a b:Nat}:a+1<b+1->a<b:=Q.o [a,b] 0x1110001111051100519
theorem Z25{a b:Nat}:a<=a+b:=Q.o [a,b] 0x10110005000
theorem Z34{a b:Nat}:a+(b+1)<17->¬(a=16):=Q.o [a,b] 0x1001100000010200260000001121110500519
theorem Z35{a b:Nat}:a+(b+1)<17->a+1+b<17:=Q.o [a,b] 0x110000001121011005510000001121110500519
theorem Z36{a:Nat}:a+1=17->a<17:=Q.o [a] 0x1100000001120010000001121100529
theorem Z37{a b:Nat}:a+1+b=a+b+1:=Q.o [a,b] 0x100111100055101100552
theorem Z38{a:Nat}:a<=10000->¬(16777216+1<a+1):=Q.o [a] 0x1111005110100000025160000271020009
theorem Z39{a:Nat}:6*(a+1)=6+6*a:=Q.o [a] 0x1010006046151100506042
theorem Z40{a b:Nat}:a+(b+1)<=10000->a<=10000:=Q.o [a,b] 0x10110000271020000000271021110500509
theorem Z41{a b:Nat}:a+(b+1)<=10000->a+1+b<=10000:=Q.o [a,b] 0x110000271021011005500000271021110500509
theorem Z42{a b:Nat}:a+1+b=a+(b+1):=Q.o [a,b] 0x100111105005101100552
theorem Z43{a:Nat}:89+(a+1)=90+a:=Q.o [a] 0x101000000005a251100500000059252
theorem Z44{a:Nat}:¬(89=90+a):=Q.o [a] 0x101000000005a2500000059226
theorem Z45{a:Nat}:a+1<39->a<39:=Q.o [a] 0x110000002720010000002721100519
theorem Z46{a:Nat}:¬(90+a=89):=Q.o [a] 0x110000000592000000005a2526
theorem Z47{a:Nat}:17*(a+1+1)=17*(a+1)+17:=Q.o [a] 0x10100000011211005110451111005511042
theorem Z48{a:Nat}:89<90+(a+1):=Q.o [a] 0x11110050000005a250000005921
theorem Z49{a:Nat}:¬(90+a=1):=Q.o [a] 0x11011000000005a2526
theorem Z50{a:Nat}:min (17*(a+1+1)) 650<=10000:=Q.o [a] 0x10110000271020000028a211110055110470
theorem Z51{a:Nat}:5+6*a=1+(1+(1+(1+(1+(6*a+0))))):=Q.o [a] 0x1010100060451151151151151150006045152
theorem Z53{a b:Nat}:a+(b+1)<38->a+1<38:=Q.o [a,b] 0x10110000002621100510000002621110500519
theorem Z54{a b:Nat}:a+(b+1)<38->a+1+b<38:=Q.o [a,b] 0x110000002621011005510000002621110500519
theorem Z55{a b:Nat}:a+(b+1)<38->a+1<39:=Q.o [a,b] 0x10110000002721100510000002621110500519
theorem Z56{a b:Nat}:a+(b+1)=a+1+b:=Q.o [a,b] 0x100110110055111050052
theorem Z57{a:Nat}:17*(a+1)=17*a+17:=Q.o [a] 0x10100000011200110451100511042
theorem Z58:0+37<38:=Q.o [] 0x10000002620000002520151
theorem Z59:37+1<39:=Q.o [] 0x10000002721100000025251
theorem Z63{b:Nat}{a:Int}:0<=a->a.toNat<b->-(b:Int)<=a/\a<(b:Int):=Q.ok [b] [a] 0x11100101101010012100033004000033233700005319000139
theorem Z64{a:Int}:0<=a->¬(a<0):=Q.ok [] [a] 0x11010046000139
theorem Z65{b:Nat}{a:Int}:0<=a->a.toNat<b->0<=a/\a<(b:Int):=Q.ok [b] [a] 0x1110010010101001001003300400013700005319000139
theorem Z66{b:Nat}{a:Int}:0<=a+(b:Int)->¬(0<=a)->-(b:Int)<=a/\a<(b:Int):=Q.ok [b] [a] 0x121010100330040000332337000136900330050139
theorem Z67{a:Int}:¬(0<=a)->a<0:=Q.ok [] [a] 0x11010040001369
theorem Z68{b:Nat}{a:Int}:0<=a+(b:Int)->¬(0<=a)->0<=a+(b:Int)/\a+(b:Int)<(b:Int):=Q.ok [b] [a] 0x110010100330033005400330050137000136900330050139
theorem Z69{a b:Nat}:a+b<=16777216->a<=16777216:=Q.o [a,b] 0x10110100000020000100000021000509
theorem Z70{a b c:Nat}:a+b<=16777216->c=b->a+c<=16777217:=Q.o [a,b,c] 0x11010100000122000501020290100000021000509
theorem Z71{a:Nat}:a<=16777216->a<=16777216:=Q.o [a] 0x110100000020000100000020009
theorem Z72{a b:Nat}:a=(b:Int).toNat->a=b:=Q.o [a,b] 0x1101101010001001001010100021033530029
theorem Z73{a b:Nat}:(a:Int)<(b:Int)->a<b:=Q.o [a,b] 0x11100011033003349
theorem Z74{a b:Nat}:a<1048576->min a b<=16777216:=Q.o [a,b] 0x111000110100000021000700010000020019
theorem Z75{a c:Nat}{b:Int}:(a:Int)=max 0 (min (b+(c:Int)) (c:Int))->a<=c:=Q.ok [a,c] [b] 0x101001000100101010010001101010000103310330057018003359
theorem Z76{a c:Nat}{b:Int}:(a:Int)=max 0 (min b (c:Int))->a<=c:=Q.ok [a,c] [b] 0x1010010001001010100100011010100001033007018003359
theorem Z77{b:Nat}{a:Int}:a<0->max (a+(b:Int)) 0=max 0 (min (a+(b:Int)) (b:Int)):=Q.ok [b] [a] 0x1000100101101000100001100011000101000001000001000001000001001000100101000001000001000011000101000330033005701801003300585010049
theorem Z78{b:Nat}{a:Int}:¬(a<0)->min a (b:Int)=max 0 (min a (b:Int)):=Q.ok [b] [a] 0x1000100010100000100000101000100011100100100001100000110011100100100001100000110010100000100000100033007018003300750100469
theorem Z79:(0:Int)<1:=Q.o [] 0x111014
theorem Z80{a b:Nat}:((a:Int)-(b:Int)-1+1).toNat=a-b:=Q.o [a,b] 0x10000100011001010001100101000010000110006111110330033665532
theorem Z81{a b:Nat}:¬((a:Int)<(b:Int))->(Int.toNat 0)=b-a:=Q.o [a,b] 0x10000010000011001010000010000010000011001010001060153210330033469
theorem Z82{a b:Nat}:((a:Int)+(b:Int)*1).toNat=a+b:=Q.o [a,b] 0x11110100010001100051033011400335532
theorem Z83{a:Nat}:a=0->(a:Int)=0:=Q.o [a] 0x10101100100335010029
theorem Z84{a b c d:Nat}:a<=b->min (c-d) (a-d)<=b:=Q.o [a,b,c,d] 0x100001000100001000100011000100001000100001000100011010000001110000011110300063020670100009
theorem Z85{a:Nat}:(a:Int)=0->a=0:=Q.o [a] 0x10101100100201003359
theorem Z86{a b c:Nat}:a-b=c->a<=c->¬(c=0)->b=0:=Q.o [a,b,c] 0x10010000010010000010001000010001100010000100010000010100000000101001011020120269200009201000629
theorem Z87{a b c:Nat}:a-b=c->c<=a-0:=Q.o [a,b,c] 0x100100011001010110010100100101006200201000629
theorem Z91{a b c d e f:Nat}:a<=b+c+(d+e)->f+e+a<=f+(b+c)+(d+e+e):=Q.o [a,b,c,d,e,f] 0x1140403055201055055004050550403052010550009
theorem Z92{a b:Nat}:a-(a-b)<=b:=Q.o [a,b] 0x1000100101100010000110100060060
theorem Z93{a b:Int}:-a<=b->¬(b< -a):=Q.ok [] [a,b] 0x110023104610002339
theorem Z94{a b:Int}:a<b->¬(b<=a):=Q.ok [] [a,b] 0x11001036100049
theorem Z95{a:Nat}{b:Int}:(a:Int)<=b->¬(b<(a:Int)):=Q.ok [a] [b] 0x110033004600003339
theorem Z96{a:Int}:a<1->a.toNat=0:=Q.ok [] [a] 0x100101100110100532110049
theorem Z97{a b c:Nat}:a=b->a=c->b=min a c:=Q.o [a,b,c] 0x1011000001100100001001000001000120007102200029100029
theorem Wx{a b:Nat}:a+1+10*(b+1)<=a+10*(b+1+1):=Q.o [a,b] 0x1111110550a04005111050a041100550
theorem Ww{a b:Nat}:a+3+100*(b+1)<=a+100*(b+1+1):=Q.o [a,b] 0x11111105564040051110564043100550
theorem adj{a b c:Nat}:a+10*(b+1+1)<=800->c=1->a+c<1000:=Q.o [a,b,c] 0xa01101000003e82200051112029000003202111110550a0400509
theorem adi{a b:Nat}:a=b+2->b<=a:=Q.o [a,b] 0x10100100211050029
theorem adh{b:Nat}{a:Int}:0<=a->a<(b:Int)->0<=a/\a<(b:Int):=Q.ok [b] [a] 0x1100101003300400013700330049000139
theorem adg{a:Nat}{b:Int}:-(a:Int)<=b->¬(0<=b)->0<=b+(a:Int)/\b+(a:Int)<(a:Int):=Q.ok [a] [b] 0x11001010033003300540033005013700013690000332339
theorem adf{a b:Nat}:a-b=0->a<=b:=Q.o [a,b] 0x110000101010000011000629
theorem ade{a b c:Nat}:a-b=0->a=c->c<=b:=Q.o [a,b,c] 0x10110000010101010200200029011000629
theorem adb{a b c:Nat}:a-b=c+1->b<a:=Q.o [a,b,c] 0x1000001100100100101112051000629
theorem ada{a b c:Nat}:a<b->b=c->a<c:=Q.o [a,b,c] 0x110120001201029100019
theorem ac9{a b c:Nat}:a-b=c+1->a-(b+1)=c:=Q.o [a,b,c] 0x10011000000100011001100011000001100110001000000010010000101020111050062112051000629
theorem ac8{a b c:Nat}:a+64<b->a=c+1->c<b:=Q.o [a,b,c] 0x1011102011120500291000000040200519
theorem ac7{a b c:Nat}:a<b->a=c->b<=c->False:=Q.o [a,b,c] 0x1011b201009200029100019
theorem KI{a b c:Nat}:a<min b c->a<c:=Q.o [a,b,c] 0x10100011120001201070019
theorem ac6{a:Nat}:a<2->a<3:=Q.o [a] 0x1131001210019
theorem ac5{a b c:Nat}:a+b<500->min c a<1000:=Q.o [a,b,c] 0x10011010111000003e82002071000001f421000519
theorem ac4{a b:Nat}:a=b->b<=a:=Q.o [a,b] 0x10100100100029
theorem ac3{a b c d e:Nat}:a+b<500->c<=a+min d (min b e)->c<1000:=Q.o [a,b,c,d,e] 0x11011000001111100000100110000010111000003e82201401073070052009000001f421000519
theorem Wv{a:Nat}:¬((a:Int)<0):=Q.o [a] 0x1101003346
theorem ac2{a b:Nat}:(max 0 (min (a:Int) (b:Int))).toNat=min a b:=Q.o [a,b] 0x101100000100101010100001000010110000010010101010000100000110000101001001101000010000001000000100100010001001001010110000010000101010000100101011000001000010101000010010011100000100000110000101001000100010010000001000000110007103300337018532
theorem Wu{a b:Nat}:¬(a<=b)->b<=a:=Q.o [a,b] 0x11001001000069
theorem ac1{a:Nat}:a<=3->a<=16777216:=Q.o [a] 0x11010000002000310009
theorem ac0{a b:Nat}:a-b<=a:=Q.o [a,b] 0x101100100100060
theorem Ws{a b:Nat}:a<=b->a<=b+1:=Q.o [a,b] 0x1111105000100009
theorem Wr{a b:Nat}:a<=b->¬(b=a)->a+1<=b:=Q.o [a,b] 0x1100110101100500010269100009
theorem acZ{a b c:Nat}:a<b+(c+1)->a<b+1+c:=Q.o [a,b,c] 0x1120111055001112051050019
theorem Wq{a b:Nat}:a+1<=b->a<=b:=Q.o [a,b] 0x1110000101100509
theorem acY{a:Nat}:(max 0 (a:Int)).toNat=a:=Q.o [a] 0x1011001010110010011010100010001000033018532
theorem acX{a b c d:Nat}:a+b<=c->a<d+(c+1-d):=Q.o [a,b,c,d] 0x10111001001130112056305001201000509
theorem acW{a b:Nat}:a<=b->b=a+(b-a):=Q.o [a,b] 0x1100110000100001000106005102100009
theorem acV{a b c:Nat}:a<b+c->b<=a->a-b<c:=Q.o [a,b,c] 0x111000010120100061001009201050019
theorem acU{a b c:Nat}:a-b=c->b<=a->a=b+c:=Q.o [a,b,c] 0x1100100010110000100010001001020105002001009201000629
theorem acT{a b:Nat}:a<=b+a-b:=Q.o [a,b] 0x11000110001056000
theorem acS{a b c d:Nat}:a+(0+1+1+1)<=b->b=c+d->a<c+d:=Q.o [a,b,c,d] 0x110130205001302051029101111110155500509
theorem acR{a b c d:Nat}:a-b=c+(0+1+1+1+d)->a=b+(c+(3+d)):=Q.o [a,b,c,d] 0x1100000111001100000010010000101030315205105002301111110155552051000629
theorem acQ{a b c d:Nat}:a=b+(c+(3+d))->b+c+(0+1+1+1)<=a:=Q.o [a,b,c,d] 0x100010100111111015552010550303152051050029
theorem acP{a b c:Nat}:a=b->a<=b+c:=Q.o [a,b,c] 0x10011020105000100029
theorem acO{a b c d:Nat}:a=b+(c+(3+d))->b+c+3<=a:=Q.o [a,b,c,d] 0x100010100312010550303152051050029
theorem acN{a b:Nat}:3<=a+(b+1+1+1):=Q.o [a,b] 0x11111111110555005310
theorem acM{a:Nat}:1=a->2<=a->False:=Q.o [a] 0x101b002109001129
theorem acL{a:Nat}:a<=100->a<=16777214:=Q.o [a] 0x1100fffffe20000000006420009
theorem acK{a:Nat}:0<=(a:Int)+1+1:=Q.o [a] 0x111111003355013
theorem acJ{a:Nat}:0<(a:Int)+1+1:=Q.o [a] 0x111111003355014
theorem acI{a:Nat}:0<=(-1)+((a:Int)+1):=Q.o [a] 0x11110033511235013
theorem Wo{a:Nat}:((-1)+((a:Int)+1)).toNat=a:=Q.o [a] 0x1110100100100110033511235532
theorem acH{a b:Nat}:((a:Int)<(b:Int)↔a<b):=Q.o [a,b] 0x11001110001103300334a
theorem acG{a b:Nat}:a<b->¬(b<=a):=Q.o [a,b] 0x11001006100019
theorem Wn{a b:Nat}:¬(a<b)->b<=a:=Q.o [a,b] 0x11001001000169
theorem acF{a:Nat}:1<=(a:Int)+1:=Q.o [a] 0x111100335113
theorem acE{a:Nat}:-1<(a:Int)+1:=Q.o [a] 0x11110033511234
theorem acD{a b:Nat}:a<=b->(b:Int)-(a:Int)=((b-a:Nat):Int):=Q.o [a,b] 0x1100110000100001000106330033103365100009
theorem Wm{a b:Nat}:a+(b+1)<=16777216->a+1+b<=16777216:=Q.o [a,b] 0x110100000021011005500100000021110500509
theorem Wl{a b:Nat}:a+(b+1)<=16777216->a<16777216:=Q.o [a,b] 0x10110100000020010100000021110500509
theorem Wk{a:Nat}:a<=1000->a<=16777216:=Q.o [a] 0x11010000002000000003e820009
theorem acC{a b:Nat}:-(a:Int)<=(b:Int):=Q.o [a,b] 0x11110330033233
theorem Wj{a b:Nat}:a<b->(a:Int)<(b:Int):=Q.o [a,b] 0x11103300334100019
theorem Wi{a:Nat}:0<=(a:Int):=Q.o [a] 0x110033013
theorem Wh{a b:Nat}:a<b->a<=b:=Q.o [a,b] 0x1110000100019
theorem acB{a:Nat}:0+1+a=a+1:=Q.o [a] 0x10111005001101552
theorem acA{a:Nat}:a<1000->a+1<16777216:=Q.o [a] 0x11010000002110051000003e820019
theorem acz{a:Nat}:0<=(-1)+((a+1:Nat):Int):=Q.o [a] 0x11110053311235013
theorem Wg{a:Nat}:((-1)+((a+1:Nat):Int)).toNat=a:=Q.o [a] 0x1110100100100110053311235532
theorem acy{a:Nat}:-((a+1:Nat):Int)<=-1:=Q.o [a] 0x1111231100533233
theorem acx{a:Nat}:-1<((a+1:Nat):Int):=Q.o [a] 0x11110053311234
theorem acw{a b:Nat}:a+(b+1)<900->a<1000:=Q.o [a,b] 0x1011000003e820010000038421110500519
theorem acv{a b c:Nat}:a+(b+1)<900->c<=a+1->c+b<900:=Q.o [a,b,c] 0x1110000038421020511100520090000038421110500519
theorem Wf{a:Nat}:0<a->¬((a:Int)=0):=Q.o [a] 0x10101003356000119
theorem acu{a:Nat}:a<=3->a<=1000:=Q.o [a] 0x11000003e82000310009
theorem acs{a:Nat}:a<1114112->0<=(a:Int)/\(a:Int)<=1114111:=Q.o [a] 0x111100010ffff200333003301370011000020019
theorem acr{b:Nat}{a:Int}:0<=a->(b:Int)+a=((b+a.toNat:Nat):Int):=Q.ok [b] [a] 0x1101100010001000530053300003355000139
theorem acq{a b c:Nat}:a=b->c=b->a=c:=Q.o [a,b,c] 0x110010001011020002102029100029
theorem acp{a b:Nat}:((a:Int)=(b:Int)↔a=b):=Q.o [a,b] 0x1100101001010011010002103300335a
theorem aco{a:Nat}:a<=4->a<=16777216:=Q.o [a] 0x11010000002000410009
theorem acn{a b c:Int}:a+b+c=a+(b+c):=Q.ok [] [a,b,c] 0x1120105005201000555
theorem acm{a:Int}:a<65040->(a-65024).toNat<16:=Q.ok [] [a] 0x100110000001020000fe0020065310000fe1020049
theorem ack{a:Int}:65024<=a->65024+(((a-65024).toNat:Nat):Int)=a:=Q.ok [] [a] 0x110011010010000000fe00200653330000fe00255000000fe00239
theorem acj{a b c:Nat}:a<=b->a+1<=c+1+b:=Q.o [a,b,c] 0x1001110112055110050100009
universe u v w
theorem x3 {α:Sort u} {p q:α->Prop} {G:Prop} (h:∃a,p a/\q a) (k:∀a,p a->q a->G):G:=h.elim λa w=>k a w.1 w.2
theorem y3 {a b c G:Prop} (h:a/\b/\c) (k:a->b->c->G):G:=k h.1 h.2.1 h.2.2
theorem x4 {α:Sort u} {β:Sort v} {p q:α->β->Prop} {G:Prop} (h:∃a b,p a b/\q a b) (k:∀a b,p a b->q a b->G):G:=h.elim λa h=>h.elim λb w=>k a b w.1 w.2
theorem w4 {α:Sort u} {p q r:α->Prop} {G:Prop} (h:∃a,p a/\q a/\r a) (k:∀a,p a->q a->r a->G):G:=h.elim λa w=>k a w.1 w.2.1 w.2.2
theorem x5 {α:Sort u} {β:Sort v} {p q r:α->β->Prop} {G:Prop} (h:∃a b,p a b/\q a b/\r a b) (k:∀a b,p a b->q a b->r a b->G):G:=h.elim λa h=>h.elim λb w=>k a b w.1 w.2.1 w.2.2
theorem v5 {α:Sort u} {p q r s:α->Prop} {G:Prop} (h:∃a,p a/\q a/\r a/\s a) (k:∀a,p a->q a->r a->s a->G):G:=h.elim λa w=>k a w.1 w.2.1 w.2.2.1 w.2.2.2
theorem x6 {α:Sort u} {β:Sort v} {γ:Sort w} {p q r:α->β->γ->Prop} {G:Prop} (h:∃a b c,p a b c/\q a b c/\r a b c) (k:∀a b c,p a b c->q a b c->r a b c->G):G:=h.elim λa h=>h.elim λb h=>h.elim λc w=>k a b c w.1 w.2.1 w.2.2
theorem Y1{a b c d e f:Nat}:a+b+(c+d)+(e+f)=a+c+e+(b+d+f):=Q.o [a,b,c,d,e,f] 0x1000000150301055402000555504053020510005552
theorem Y2{a b c:Nat}:a<b+1-c->c+a+(b-c-a)=b:=Q.o [a,b,c] 0x111000001001000001100010000100100110000101010000010000000100000111000000010100010100001001010000110000000101000001000000010010002010660020552201110560019
theorem Y3{a b c d:Nat}:a+b+c=d->a<d+1:=Q.o [a,b,c,d] 0x11011011305001302010005529
theorem Y4{a b c d:Nat}:a+b+c=d->b<d+1-a:=Q.o [a,b,c,d] 0x10011100100011000113056101302010005529
theorem Y5{a b c d:Nat}:a+b+c=d->d-a-b=c:=Q.o [a,b,c,d] 0x1111001000010000001011001100010000000111001000010000000011000000010120100030662302010005529
theorem Y6{a:Nat}:((a=2\/a=3)\/a=4↔2<=a/\a<=4):=Q.o [a] 0x10010001010000110001010000110001100001100101000110010101100101011001014100000210741002310022100288a
theorem Y7{a b c d:Nat}:a=b->b=c->d=c->a=b/\a=d:=Q.o [a,b,c,d] 0x110010100001011010000010000010000100001030002100027203029201029100029
theorem Y8{a b c d:Nat}:a=b->b=c->d=c->d=b/\d=a:=Q.o [a,b,c,d] 0x101101000001100101000010110000000110010000302103027203029201029100029
theorem Y9{a b c:Nat}:a+b<=31->c<b->a+1+c<=31:=Q.o [a,b,c] 0x1110000001f22011005501020190000001f21000509
theorem Y10{a b c:Nat}:a+b<=c->b+a<=c:=Q.o [a,b,c] 0x1120001050201000509
theorem Y11{a b c d:Nat}:a+b<=c->b=d->d+a<=c:=Q.o [a,b,c,d] 0x101120003050301029201000509
theorem Y15{a b:Int}:0<=a->b<=4->b-a<=4:=Q.ok [] [a,b] 0x11141001063411039000139
theorem Y33{a:Int}:0<a->-a<0-0:=Q.ok [] [a] 0x110101600234000149
theorem Y34{a:Int}:0<a->0-0<a:=Q.ok [] [a] 0x1100010164000149
theorem Y35{a b:Nat}:a+(b+1)<=3->a+1+b<=3:=Q.o [a,b] 0x1131101100550311110500509
theorem Y36{a:Nat}:3-(a+1)=2-a:=Q.o [a] 0x1000100110101001101010001000100216110053162
theorem Y37{a b:Nat}:a+(b+1)<=3->3-a=2-a+1:=Q.o [a,b] 0x10010100001000011000101010001100101000001000001011002165003162311110500509
theorem Y38{a b c d:Int}:a+b-(c+d)=a-c+(b-d):=Q.ok [] [a,b,c,d] 0x1130106200065302051000565
theorem Y39{a:Nat}:a<=3->0+a<=3:=Q.o [a] 0x1131000150310009
theorem Y40{a b c:Int}:(0<a↔0<b-c)->(a<0↔b-c<0)->(0<a↔c<b)/\(a<0↔b<c):=Q.ok [] [a,b,c] 0x1010000101001000100100010101001010001010000101001000100100010100011000100001010001010001010001012010401004a1020400014a70120106401004a92010601400014a9
theorem Y41{a b c:Int}:-a=0->¬(a=0)->b=c:=Q.ok [] [a,b,c] 0x11001100101010120105010056901002359
theorem Y42{a b:Int}:¬(a<b)->¬(b<a)->a=b:=Q.ok [] [a,b] 0x1011101000500104691000469
theorem Y43{a b:Nat}:(a:Int)=(b:Int)->a=b:=Q.o [a,b] 0x10100110100021033003359
theorem Y47{a b c:Int}:(0<a↔b<c)->(a<0↔c<b)->c=b->a=0:=Q.ok [] [a,b,c] 0x10001001000001001100010001001000001010001000001010001010010051020591020401004a92010400014a9
theorem UP{a:Int}:0<=a->a<=2->a=0\/a=1\/a=2:=Q.ok [] [a] 0x1011010001100101000110011000110001001021005110058010058210039000139
theorem Y49{a b c:Nat}:a+b+c<=100->a<=1000:=Q.o [a,b,c] 0x11011000003e820000000006422010005509
theorem Y50{a b c:Nat}:a+b+c<=100->b<=1000:=Q.o [a,b,c] 0x10111000003e821000000006422010005509
theorem Y51{a b c:Nat}:a+b+c<=100->c<=1000:=Q.o [a,b,c] 0x1111000003e822000000006422010005509
theorem Y52{a b c:Nat}:a+b+c<=100->a+b<=16777216:=Q.o [a,b,c] 0x100110100000021000500000006422010005509
theorem Y53{a b c:Nat}:a+b+c<=100->a+b+c<=16777216:=Q.o [a,b,c] 0x110100000022010005500000006422010005509
theorem Y54:46=102\/46=105\/46=108->False:=Q.o [] 0x10101b0000006c20000002e220000006920000002e2280000006620000002e2289
theorem Y55{a:Nat}:a=102\/a=105\/a=108->a<1114112:=Q.o [a] 0x110011001100011000020010000006c2002000000692002800000066200289
theorem Y56{a b:Nat}:a<=400->b<=a->b+1<500:=Q.o [a,b] 0x111000001f421110510010090000019020009
theorem Y57{a b c:Nat}:a<=b->(c:Int)-(a:Int)+(b:Int)=((b-a+c:Nat):Int):=Q.o [a,b,c] 0x110001100000100000102000106533103300332033655100009
theorem Y58{a b:Nat}:a+(b+1)<=1000->a+1+b<=1000:=Q.o [a,b] 0x11000003e82101100550000003e821110500509
theorem Y59{a b:Nat}:a+(b+1)<=1000->a<16777216:=Q.o [a,b] 0x1011010000002001000003e821110500509
theorem Y60{a b:Nat}:a+1+b<=3->a+(b+1)<=3:=Q.o [a,b] 0x1131111050050311011005509
theorem Y61{a:Nat}:a<=2->a+1<=3:=Q.o [a] 0x1131110050210009
theorem Y62{a:Nat}:0+a<=3->a<=3:=Q.o [a] 0x1131000310001509
theorem Y63{a:Nat}:a<=3->0+a<=1000:=Q.o [a] 0x11000003e82000150310009
theorem Y64{a b:Nat}:a+(b+1)<=3->a<=2:=Q.o [a,b] 0x101121000311110500509
theorem Y65{a b:Nat}:0<a->b<=a-1->b+1<=a:=Q.o [a,b] 0x101100101000111050110061009000119
theorem Y66{a:Nat}:a<=2883->a<1048576:=Q.o [a] 0x1100100000200100000b4320009
theorem Y67{a b c d e f:Nat}:(a<=b/\c<=d/\e<=f↔(a:Int)<=(b:Int)/\(c:Int)<=(d:Int)/\(e:Int)<=(f:Int)):=Q.o [a,b,c,d,e,f] 0x1001000000010100000000110000001100000000101000000010015033403333033203337103300333750400302007100007a
theorem Y68{a b:Nat}:a+1+b<=60->a+1<=16777216:=Q.o [a,b] 0x10110100000021100500000003c21011005509
theorem Y69{a b:Nat}:a+1+b<=60->a+1+b<=16777216:=Q.o [a,b] 0x110100000021011005500000003c21011005509
theorem Y70{a b:Nat}:9<=a->b<9->¬(b=a):=Q.o [a,b] 0x111001026911019009109
theorem FG{a:Nat}:a<=4->a<=100:=Q.o [a] 0x11000000642000410009
theorem Y72{a b:Nat}:a<=1000->a-b+min b a<=16777216:=Q.o [a,b] 0x11001011001011000011010000002001071000650000003e820009
theorem Y79{a b:Nat}:a+(b+1)<=400->a<=400:=Q.o [a,b] 0x10110000019020000000019021110500509
theorem Y80{a b:Nat}:a+(b+1)<=400->a+1+b<=400:=Q.o [a,b] 0x110000019021011005500000019021110500509
theorem Y81{a:Nat}:a<=300->a+15<=400:=Q.o [a] 0x11000001902f100500000012c20009
theorem Y82{a b:Int}:a=b+1->¬(a<b):=Q.ok [] [a,b] 0x101100046111050059
theorem Y83{a b:Int}:a=b+1->b<a:=Q.ok [] [a,b] 0x10100104111050059
theorem Y84{a b:Int}:a=b+0->¬(a<b):=Q.ok [] [a,b] 0x101100046011050059
theorem Y85{a b:Int}:a=b+0->¬(b<a):=Q.ok [] [a,b] 0x110001046011050059
theorem Y86{a:Nat}:a<3->a=0\/a=1\/a=2:=Q.o [a] 0x100100101000110010100011001100011000100121002110028010028310019
theorem Y87{a b:Nat}:a<=4->b<=a+1->b+1<=6:=Q.o [a,b] 0x11161111050110051009410009
theorem Y88{a b c:Nat}:a<=6+b*6->c<=6->a+c<=6+(b+1)*6:=Q.o [a,b,c] 0x1111110506146152000506120091006146150009
theorem Y89{a:Nat}:a<=4->a+1<=100:=Q.o [a] 0x11000000642110050410009
theorem Y90{a b c:Nat}:a<3->b<=6+a*6->c<=6->b+c<=16777216:=Q.o [a,b,c] 0x11160100000022010506120090006146151009310019
theorem Y91{a:Nat}:2<=a->a<=4->a=2\/a=3\/a=4:=Q.o [a] 0x10101010000110001010000110001100001100001001041002310028210028410009002109
theorem Y92{a:Nat}:a+1<=6->1+a<=16777216:=Q.o [a] 0x11010000002001150611100509
theorem Y93{a:Nat}:a<=6+3*6->a<=16777216:=Q.o [a] 0x110100000020006103046150009
theorem Y94{a b:Int}:a<b->¬(b<a):=Q.ok [] [a,b] 0x11001046100049
theorem Y95{a b:Int}:a=b->¬(a<b):=Q.ok [] [a,b] 0x101100046100059
theorem Y96{a b:Int}:a=b->¬(b<a):=Q.ok [] [a,b] 0x110001046100059
theorem Y97{a b:Nat}:¬(a<b)->¬((a:Int)<(b:Int)):=Q.o [a,b] 0x1110330033461000169
theorem Y98{a b c:Nat}:(a:Int)+((b:Int)+((c:Int)+0))=((a+b+c:Nat):Int):=Q.o [a,b,c] 0x100012010005533012033510335003355
theorem Y99{a b:Nat}:15<=a->b<15->¬(b=a):=Q.o [a,b] 0x111001026f1101900f109
theorem aeE{a b:Nat}:((a:Int)<=(b:Int)↔a<=b):=Q.o [a,b] 0x11001110000103300333a
theorem aeD{a b:Nat}:a=b->b<=100000->a<16777216:=Q.o [a,b] 0x1110010000002001000186a021009100029
theorem WJ{a b:Nat}:a+0=b->b<=a:=Q.o [a,b] 0x10100100100100529
theorem PO{a b c:Nat}:a+(b+1)=c->a<c:=Q.o [a,b,c] 0x1011020001201110500529
theorem aeC{a b c d:Nat}:a<=10000->b<=900->c<=min d b->a+c<=100000:=Q.o [a,b,c,d] 0x10111000011111000186a0220005010307200900000384210090000271020009
theorem aeB{a b c:Nat}:a+(b+1)=c->a+1+b=c:=Q.o [a,b,c] 0x10100011020101100552201110500529
theorem aeA{a:Nat}:a<=900->a<=1000:=Q.o [a] 0x11000003e820000000038420009
theorem aez{a:Nat}:a<=900->a<1000:=Q.o [a] 0x11000003e820010000038420009
theorem aey{a:Nat}:a<=900->a<16777216:=Q.o [a] 0x110100000020010000038420009
theorem WH{a b:Nat}:a<=3->b<=a->b+1<=16777216:=Q.o [a,b] 0x111010000002111050001009310009
theorem aex{a b:Nat}:a=b->a<=4->b<=100:=Q.o [a,b] 0x1101000000642100410009100029
theorem aew{a:Int}:a<0->¬(0<a):=Q.ok [] [a] 0x11000146010049
theorem aev{a b:Nat}:a+b<=31->a<=31:=Q.o [a,b] 0x10110000001f20000000001f21000509
theorem WG{a:Nat}:a<=31->a<=900:=Q.o [a] 0x110000038420000000001f20009
theorem Bb{a b:Nat}:a<=4->b<=a->b<=4:=Q.o [a,b] 0x11141100001009410009
theorem aeu{a b c:Nat}:a=b->a<=c->c<=4->b<=4:=Q.o [a,b,c] 0x1110141100412009200009100029
theorem WE{a b c d:Nat}:a=b->b=c->d=c->a=d:=Q.o [a,b,c,d] 0x11001010000101101030002203029201029100029
theorem WD{a b c:Nat}:a=b->b<=c->c<=4->a<=4:=Q.o [a,b,c] 0x1111041000412009201009100029
theorem aet{a b c d:Nat}:a=b->a<=c->c<=4->d=b->d<=4:=Q.o [a,b,c,d] 0x110110141300103029412009200009100029
theorem aes{a b c d:Nat}:a=b->b=c->d=c->a=b/\d=b:=Q.o [a,b,c,d] 0x101100000001100100000010000010000100001010302100027203029201029100029
theorem aer{a b c d:Nat}:a=b->b=c->d=c->d=b/\a=b:=Q.o [a,b,c,d] 0x100000100001000010000010110000000110010010002103027203029201029100029
theorem aeq{a b c:Nat}:2<=a->a<=b->b<=4->c=a->2<=c/\c<=4:=Q.o [a,b,c] 0x11011000010100141200202107002029411009100009002109
theorem aep{a:Nat}:a+1<=2000->a<=2000:=Q.o [a] 0x11000007d02000000007d021100509
theorem aeo{a:Nat}:a<=900->a+32*(31-0)<2000:=Q.o [a] 0x110011000007d02010000001f26200400510000038420009
theorem aen{a:Nat}:a<=300->a<=400:=Q.o [a] 0x110000019020000000012c20009
theorem PN{a:Nat}:a<=10->a<=100:=Q.o [a] 0x11000000642000a10009
theorem aem{a b:Nat}:a+(b+1)<=300->a<=300:=Q.o [a,b] 0x10110000012c20000000012c21110500509
theorem ael{a b:Nat}:a+(b+1)<=300->a+1+b<=300:=Q.o [a,b] 0x110000012c21011005500000012c21110500509
theorem aek{a:Nat}:a<=300->a<900:=Q.o [a] 0x110000038420010000012c20009
theorem aej{a:Nat}:a<=300->0+a<=300:=Q.o [a] 0x110000012c20001500000012c20009
theorem aei{a:Int}:a+0=0+a:=Q.ok [] [a] 0x1100015010055
theorem WC{b:Nat}{a:Int}:a+1+(b:Int)=a+((b+1:Nat):Int):=Q.ok [b] [a] 0x101110053300500331100555
theorem aeh{a b c:Nat}:a+b=c->a+1+b=c+1:=Q.o [a,b,c] 0x10100011011205101100552201000529
theorem aeg{a:Nat}:a<=3->0+a<=10:=Q.o [a] 0x11a1000150310009
theorem aef{a:Nat}:0+(a:Int)=((a+1:Nat):Int)-1:=Q.o [a] 0x101111100533600330155
theorem aee{a b:Nat}:a=b->b<=100->a<=16777216:=Q.o [a,b] 0x11100100000020000000006421009100029
theorem aed{a b:Nat}:a=b->b<=100->a+a*0<=16777216:=Q.o [a,b] 0x111001000000200001400500000006421009100029
theorem PM{a:Nat}:a=2\/a=3->a<=100:=Q.o [a] 0x1100110000000642000310022100289
theorem aec{a b:Nat}:a=2\/a=3->b=a->b<=5592405:=Q.o [a,b] 0x110100011010005555552100001029310022100289
theorem aeb{a b c:Nat}:a<=3->b<=a->c<=a->b+1+c<=16777216:=Q.o [a,b,c] 0x1112010000002201110550002009001009310009
theorem WB{a:Nat}:a=7->6<a:=Q.o [a] 0x10100611710029
theorem aea{a:Int}:a<=3->a.toNat<=3:=Q.ok [] [a] 0x100113100530310039
theorem ad9{a:Nat}:a<=10*3->a<=16777216:=Q.o [a] 0x11010000002000310a040009
theorem ad8{a:Nat}:a<=10->a<=16777216:=Q.o [a] 0x11010000002000a10009
theorem ad7{a b:Nat}:a+b<=1000->a+b<=16777216:=Q.o [a,b] 0x11010000002100050000003e821000509
theorem ad6{a b c:Nat}:a=2\/a=3->b=a->b+c*0<=1000:=Q.o [a,b,c] 0x1101000011010000003e822000141050001029310022100289
theorem ad5{a b:Nat}:a=2\/a=3->b=a->b<64:=Q.o [a,b] 0x110100011010000000402101001029310022100289
theorem ad4{a b:Nat}:a<7->b=7->a<b:=Q.o [a,b] 0x101110001711029710019
theorem WA{a:Nat}:a<=2->a<7:=Q.o [a] 0x1171001210009
theorem ad3{a:Nat}:a<=2->a+3<7:=Q.o [a] 0x1171310051210009
theorem ad2{a:Nat}:a=2\/a=3->a<=4:=Q.o [a] 0x110011041000310022100289
theorem ad1{a b c d:Nat}:a=b+1->b<=3->c=d+1->d<=3->a+1+c<=300:=Q.o [a,b,c,d] 0x11101100000012c2201100550313009113052029311009111050029
theorem ad0{a:Nat}:a<=10->a+1<=16777216:=Q.o [a] 0x11010000002110050a10009
theorem adZ{a b:Nat}:a=b->b<=10->a+1<=16777216:=Q.o [a,b] 0x1110010000002110050a11009100029
theorem adY{a b:Nat}:a+(b+1)<=3->a<=10:=Q.o [a,b] 0x1011a1000311110500509
theorem adX{a:Nat}:a=3\/a=4->0+(6-a)<=3:=Q.o [a] 0x10000101001000010131006160150410023100289
theorem adW{a b:Nat}:a<3->b=3->a<b:=Q.o [a,b] 0x101110001311029310019
theorem adV{a b:Nat}:a+(b+1)<=1000->a<1048576:=Q.o [a,b] 0x1011001000002001000003e821110500509
theorem PK{a b:Nat}:a<=b->a<b+1:=Q.o [a,b] 0x1111105001100009
theorem adU{a b:Nat}:a<=4->b<=a->b<=100:=Q.o [a,b] 0x111000000642100001009410009
theorem adT{a b c:Nat}:a=b->b<=c->a<=c:=Q.o [a,b,c] 0x111020000201009100029
theorem adS{a b c:Nat}:a=b->b<=c->c<=4->a<=100:=Q.o [a,b,c] 0x11110000000642000412009201009100029
theorem Wz{a:Nat}:a<=4->a<5:=Q.o [a] 0x1151001410009
theorem adR{a b:Nat}:a=b->b<=4->a<=16777216:=Q.o [a,b] 0x1110010000002000411009100029
theorem adQ{a:Nat}:a<=15->a<=1000:=Q.o [a] 0x11000003e82000f10009
theorem adP{a b:Nat}:a=b->a=b:=Q.o [a,b] 0x1010011010002100029
theorem adO{a:Nat}:28<a->27<a:=Q.o [a] 0x11000000001b21000000001c219
theorem adN{a b c d:Nat}:a<b+(c+1-b)->b<=a->d=a-b->d+b<=c:=Q.o [a,b,c,d] 0x10100000000101000010101010000101000120103050100063029001009101120561050019
theorem adM{a b c:Nat}:a+b<=c->b<=a+b/\a+b<b+(c+1-b):=Q.o [a,b,c] 0x1110000110011010112056105100051100051007201000509
theorem adL{a b:Nat}:a=a+b-b:=Q.o [a,b] 0x10100110001000110100056002
theorem PJ{a:Nat}:a=3\/a=4->a<=4:=Q.o [a] 0x110011041000410023100289
theorem PI{a b c:Nat}:a<=b->((b-a+c:Nat):Int)=(b:Int)+((c:Int)-(a:Int)):=Q.o [a,b,c] 0x1100000110000100000100033203361033520001065335100009
theorem adK{a b c d:Int}:a=b+c+d->a=b+(c+d):=Q.ok [] [a,b,c,d] 0x10111030205105005302010550059
theorem adJ{c:Nat}{a b:Int}:a<b->b<=a->c=0:=Q.ok [c] [a,b] 0x1100001101002001039100049
theorem adI{a:Int}:1*a+0=0+a:=Q.ok [] [a] 0x11000150100010455
theorem Wy{a:Nat}:a<=4->a<=4:=Q.o [a] 0x1141000410009
theorem adH{a b c:Int}:a-(b+c)=a-b-c:=Q.ok [] [a,b,c] 0x1120100066201050065
theorem adG{a b c:Nat}:a=b->b<=c->a<=c+1:=Q.o [a,b,c] 0x111011205000201009100029
theorem adF{a b c:Nat}:a=b->b<=c->a+1<=c+1:=Q.o [a,b,c] 0x111011205110050201009100029
theorem adE{a b:Nat}:a<=100->b<=a->b+1<500:=Q.o [a,b] 0x111000001f421110510010090000006420009
theorem adD{a b:Nat}:a<=100->b<=a->b<1000:=Q.o [a,b] 0x111000003e821010010090000006420009
theorem adC{a:Nat}:a<=15->0+a<=20:=Q.o [a] 0x11000000142000150f10009
theorem adB{a b:Nat}:a=3\/a=4->b<=a->b<=4:=Q.o [a,b] 0x111000111041100001009410023100289
theorem PF{a b:Nat}:a=3\/a=4->b<=a->b<=100:=Q.o [a,b] 0x1110001110000000642100001009410023100289
theorem adA{a:Nat}:a=2\/a=3->2<=a/\a<=3:=Q.o [a] 0x11001010110010131000002107310022100289
theorem adz{a b:Nat}:a=3\/a=4->b=a->b<=100:=Q.o [a,b] 0x110100011010000000642100001029410023100289
theorem ady{a b:Nat}:a<b->b<=31->a<=100:=Q.o [a,b] 0x1110000006420000000001f21009100019
theorem adx{a:Nat}:a<=108->a<1114112:=Q.o [a] 0x110011000020010000006c20009
theorem adw{a b:Nat}:a<=100->b<=a->b<=1048576:=Q.o [a,b] 0x1110010000021000010090000006420009
theorem adu{a:Nat}:a<=31->a<=100:=Q.o [a] 0x110000006420000000001f20009
theorem adt{a b:Nat}:a+b<=31->a<=1000:=Q.o [a,b] 0x1011000003e820000000001f21000509
theorem ads{a b:Nat}:a=2\/a=3->b=3\/b=4->2<=a/\a<=b:=Q.o [a,b] 0x10110001000100101100010001001011000100010010110001000110000002107411023110289310022100289
theorem adq{a b:Nat}:a=b->b<=10->a<=900:=Q.o [a,b] 0x1110000003842000a11009100029
theorem adp{a:Nat}:6-a<=10:=Q.o [a] 0x1101a1006160
theorem ado{a:Int}:¬(0<a)->¬(a=0)->0< -a:=Q.ok [] [a] 0x110011002301401005690001469
theorem adn{a:Int}:¬(0<a)->¬(a=0)->a<0:=Q.ok [] [a] 0x1100110100401005690001469
theorem adm{a b:Int}:¬(a<b)->¬(b<a)->a-b=0:=Q.ok [] [a,b] 0x1011100110006500104691000469
theorem adl{a b c d e f:Int}:a+b+c=d+e+f->a=d/\b=e\/a=d/\c=f\/b=e/\c=f->a=d/\b=e/\c=f:=Q.ok [] [a,b,c,d,e,f] 0x10100001100000100010010010001101001101011010100001100000110100110101101000100100100011010011010110101000011000001000100100100050205401057300057502054010575020530005784010530005789504030552010005559
theorem adk{a b c d e f:Nat}:a+b+c=d+e+f->(a:Int)+(b:Int)+(c:Int)=(d:Int)+(e:Int)+(f:Int):=Q.o [a,b,c,d,e,f] 0x10100000011050334033303355203310330033555504030552010005529
set_option backward.match.sparseCases false
open PySem PySem.W
noncomputable abbrev PG:Program:=PySem.Challenge.pw_xb0035_01
def BD:List Stmt:=PG.main.body
noncomputable def dN (body:List Stmt) (i:Nat):Arguments:=match body[i]? with
 |some (.FunctionDef _ a _ _ _ _ _ _ _ _)=>a
 |_=>default
def xW (body:List Stmt) (i j:Nat):Arguments:=match body[i]? with
 |some (.ClassDef _ _ _ b _ _ _ _ _ _ _)=>dN b j
 |_=>default
noncomputable def fnAt (body:List Stmt) (i:Nat):List Stmt×Scope:=match body[i]? with
 |some (.FunctionDef _ _ b _ _ _ sc _ _ _)=>(b,sc)
 |_=>([],default)
def Km (body:List Stmt) (i j:Nat):List Stmt×Scope:=match body[i]? with
 |some (.ClassDef _ _ _ b _ _ _ _ _ _ _)=>fnAt b j
 |_=>([],default)
noncomputable def UN:List Obj->Nat->BT->BT
 |[],_,t=>t
 |o::l,n,t=>UN l (n+1) (t.ins n o)
noncomputable def bK (s:String) (t:Nat):Value:=.str (Str.ofString s) t
noncomputable def aW (i:Int):Value:=.int i 0
noncomputable def a_ (a:Nat):Value:=.ref a
noncomputable def cw:Value:=.none
noncomputable def mH (c:String) (d:Data):Obj:={cls:=.type c,data:=d}
abbrev dY:=Array Value
noncomputable def k9 (l:dY):Obj:=mH "tuple" (.seq l)
noncomputable def nJ (v:dY):Obj:={cls:=.none,data:=.fields v}
def c9 (P:Params) (s:String) (t:Nat) (v:Value):DictEntry:={hash:=PyData.keyHash P (Str.ofString s),key:=bK s t,val:=v}
noncomputable def nI (c:Value) (n q:String) (a:Arguments) (b:List Stmt×Scope) (g:Nat) (m:Value) (d:Value):Obj:=Obj.mk c none (Data.func ⟨Str.ofString n,Str.ofString q,a,.stmts b.1,b.2,g,[],.none,.none,.none,m,none,d,.none,0⟩) #[]
noncomputable def NX (P:Params):Obj:=k9 #[]
def NW (P:Params):Obj:=nJ #[]
def NV (P:Params):Obj:=mH "code" (.fields #[bK "<module>" 182,bK "<module>" 183,bK "/claim/cut.py" 184,aW 1,aW 0,aW 0,aW 0,aW 0,a_ 11,Value.bool Bool.false,aW 181,a_ 12,cw,cw,cw,cw,aW 185,aW 1,bK "/claim/cut.py" 186])
def NU (P:Params):Obj:={cls:=Value.type "frame",slots:=#[Option.some (a_ 13),Option.some (a_ 3),Option.some (a_ 3),Option.none,Option.some (bK "__main__" 164),Option.none,Option.some (a_ 0)]}
def abU (P:Params):Obj:={cls:=Value.type "dict",data:=Data.dict #[c9 P "__name__" 165 (bK "cpy313.stringprep" 285),c9 P "__doc__" 166 cw,c9 P "__package__" 167 cw,c9 P "__loader__" 168 (Value.builtin "__main__.__loader__#opaque"),c9 P "__spec__" 169 cw,c9 P "__annotations__" 170 (a_ 6),c9 P "__builtins__" 171 (a_ 4),c9 P "__file__" 173 (bK "/claim/cut.py" 172),c9 P "__cached__" 174 cw,c9 P "ELLIPSIS_MARKER" 190 (bK "..." 189),c9 P "_ellipsis_match" 202 (a_ 21),c9 P "TupleComp" 246 (a_ 45),c9 P "add_func_stats" 264 (a_ 56),c9 P "add_callers" 275 (a_ 63),c9 P "count_calls" 284 (a_ 70)] 15}
def ZJ (P:Params):Obj:=nJ #[aW 3,aW 0,a_ 20,aW 32,aW 0,a_ 27,aW 46,aW 0,a_ 55,aW 50,aW 0,a_ 62,aW 63,aW 0,a_ 69]
noncomputable def ZG (P:Params):Obj:=k9 #[]
def ZF (P:Params):Obj:=nJ #[]
def ZE (P:Params):Obj:=k9 #[bK "want" 194,bK "got" 195,bK "ws" 196,bK "startpos" 197,bK "endpos" 198,bK "w" 199]
noncomputable def ZD (P:Params):Obj:=k9 #[]
def ZC (P:Params):Obj:=nI cw "_ellipsis_match" "_ellipsis_match" (dN BD 2) (fnAt BD 2) 0 cw cw
def Gz (P:Params):Obj:=mH "code" (.fields #[bK "_ellipsis_match" 191,bK "_ellipsis_match" 192,bK "/claim/cut.py" 193,aW 3,aW 2,aW 0,aW 0,aW 3,a_ 15,Value.bool Bool.true,aW 181,a_ 16,cw,a_ 17,a_ 18,a_ 19,aW 200,aW 3,bK "/claim/cut.py" 201])
def CR (P:Params):Obj:=nI (Value.type "function") "_ellipsis_match" "_ellipsis_match" (dN BD 2) (fnAt BD 2) 3 (bK "cpy313.doctest" 187) (a_ 20)
noncomputable def Zz (P:Params):Obj:=k9 #[]
noncomputable def Zy (P:Params):Obj:=mH "builtin_function_or_method" (.fields #[Value.builtin "type.__prepare__",Value.type "type"])
def Zx (P:Params):Obj:={cls:=Value.type "dict",data:=Data.dict #[c9 P "__module__" 212 (bK "cpy313.pstats" 203),c9 P "__qualname__" 214 (bK "TupleComp" 213),c9 P "__firstlineno__" 216 (Value.int 32 215),c9 P "__init__" 224 (a_ 35),c9 P "compare" 237 (a_ 42),c9 P "__static_attributes__" 239 (a_ 43)] 6}
noncomputable def Zw (P:Params):Obj:=k9 #[]
def Zv (P:Params):Obj:=nJ #[aW 34,aW 4,a_ 34,aW 37,aW 4,a_ 41]
def Zu (P:Params):Obj:=mH "code" (.fields #[bK "TupleComp" 207,bK "TupleComp" 208,bK "/claim/cut.py" 209,aW 32,aW 0,aW 0,aW 0,aW 0,a_ 25,Value.bool Bool.false,aW 181,a_ 26,cw,cw,cw,cw,aW 210,aW 32,bK "/claim/cut.py" 211])
def Zt (P:Params):Obj:={cls:=Value.type "frame",slots:=#[Option.some (a_ 27),Option.some (a_ 3),Option.some (a_ 24),Option.none,Option.some (bK "cpy313.pstats" 203),Option.none,Option.some (a_ 0)]}
noncomputable def Zs (P:Params):Obj:=k9 #[]
def Zr (P:Params):Obj:=nJ #[]
def Zq (P:Params):Obj:=k9 #[bK "self" 220,bK "comp_select_list" 221]
noncomputable def Zp (P:Params):Obj:=k9 #[]
def Zo (P:Params):Obj:=nI cw "__init__" "TupleComp.__init__" (xW BD 4 0) (Km BD 4 0) 0 cw cw
def Gy (P:Params):Obj:=mH "code" (.fields #[bK "__init__" 217,bK "TupleComp.__init__" 218,bK "/claim/cut.py" 219,aW 34,aW 2,aW 0,aW 0,aW 3,a_ 29,Value.bool Bool.true,aW 181,a_ 30,cw,a_ 31,a_ 32,a_ 33,aW 222,aW 34,bK "/claim/cut.py" 223])
def CQ (P:Params):Obj:=nI (Value.type "function") "__init__" "TupleComp.__init__" (xW BD 4 0) (Km BD 4 0) 3 (bK "cpy313.pstats" 203) (a_ 34)
noncomputable def Zn (P:Params):Obj:=k9 #[]
def Zm (P:Params):Obj:=nJ #[]
def Zl (P:Params):Obj:=k9 #[bK "self" 228,bK "left" 229,bK "right" 230,bK "index" 231,bK "direction" 232,bK "l" 233,bK "r" 234]
noncomputable def Zk (P:Params):Obj:=k9 #[]
def Zj (P:Params):Obj:=nI cw "compare" "TupleComp.compare" (xW BD 4 1) (Km BD 4 1) 0 cw cw
def Gx (P:Params):Obj:=mH "code" (.fields #[bK "compare" 225,bK "TupleComp.compare" 226,bK "/claim/cut.py" 227,aW 37,aW 3,aW 0,aW 0,aW 3,a_ 36,Value.bool Bool.true,aW 181,a_ 37,cw,a_ 38,a_ 39,a_ 40,aW 235,aW 37,bK "/claim/cut.py" 236])
def CP (P:Params):Obj:=nI (Value.type "function") "compare" "TupleComp.compare" (xW BD 4 1) (Km BD 4 1) 3 (bK "cpy313.pstats" 203) (a_ 41)
def Zi (P:Params):Obj:=k9 #[bK "comp_select_list" 238]
def Zh (P:Params):Obj:={cls:=Value.type "dict",data:=Data.dict #[c9 P "__module__" 212 (bK "cpy313.pstats" 203),c9 P "__firstlineno__" 216 (Value.int 32 215),c9 P "__init__" 224 (a_ 35),c9 P "compare" 237 (a_ 42),c9 P "__static_attributes__" 239 (a_ 43),c9 P "__dict__" 241 (a_ 46),c9 P "__weakref__" 243 (a_ 47),c9 P "__doc__" 244 cw] 4}
def Zg (P:Params):Obj:={cls:=Value.type "type",data:=Data.cls {name:=Str.ofString "TupleComp",bases:=[Value.type "object"],mro:=[a_ 45,Value.type "object"],ns:=44,qualname:=Str.ofString "TupleComp"},slots:=#[Option.none,Option.none,Option.some (bK "TupleComp" 205),Option.some (bK "TupleComp" 213),Option.some (Value.builtin "object.__new__"),Option.some (Value.bool Bool.true)]}
def Zf (P:Params):Obj:=mH "getset_descriptor" (.fields #[bK "__dict__" 240,a_ 45,Value.builtin "function.__dict__",Value.builtin "function.__dict__#set"])
def Ze (P:Params):Obj:=mH "getset_descriptor" (.fields #[bK "__weakref__" 242,a_ 45,Value.builtin "ExceptionGroup.__weakref__",cw])
def Zd (P:Params):Obj:=mH "super" (.fields #[a_ 45,a_ 45,a_ 45])
def Zc (P:Params):Obj:=mH "builtin_function_or_method" (.fields #[Value.builtin "object.__init_subclass__",a_ 45])
noncomputable def Zb (P:Params):Obj:=k9 #[]
def Za (P:Params):Obj:=nJ #[]
def Y' (P:Params):Obj:=k9 #[bK "target" 250,bK "source" 251,bK "cc" 252,bK "nc" 253,bK "tt" 254,bK "ct" 255,bK "callers" 256,bK "t_cc" 257,bK "t_nc" 258,bK "t_tt" 259,bK "t_ct" 260,bK "t_callers" 261]
noncomputable def Y_ (P:Params):Obj:=k9 #[]
def Y0 (P:Params):Obj:=nI cw "add_func_stats" "add_func_stats" (dN BD 5) (fnAt BD 5) 0 cw cw
def Gw (P:Params):Obj:=mH "code" (.fields #[bK "add_func_stats" 247,bK "add_func_stats" 248,bK "/claim/cut.py" 249,aW 46,aW 2,aW 0,aW 0,aW 3,a_ 50,Value.bool Bool.true,aW 181,a_ 51,cw,a_ 52,a_ 53,a_ 54,aW 262,aW 46,bK "/claim/cut.py" 263])
def CO (P:Params):Obj:=nI (Value.type "function") "add_func_stats" "add_func_stats" (dN BD 5) (fnAt BD 5) 3 (bK "cpy313.pstats" 203) (a_ 55)
noncomputable def YZ (P:Params):Obj:=k9 #[]
def Gu (P:Params):Obj:=nJ #[]
def YY (P:Params):Obj:=k9 #[bK "target" 268,bK "source" 269,bK "new_callers" 270,bK "func" 271,bK "caller" 272]
noncomputable def YX (P:Params):Obj:=k9 #[]
def YW (P:Params):Obj:=nI cw "add_callers" "add_callers" (dN BD 6) (fnAt BD 6) 0 cw cw
def uH (P:Params):Obj:=mH "code" (.fields #[bK "add_callers" 265,bK "add_callers" 266,bK "/claim/cut.py" 267,aW 50,aW 2,aW 0,aW 0,aW 3,a_ 57,Value.bool Bool.true,aW 181,a_ 58,cw,a_ 59,a_ 60,a_ 61,aW 273,aW 50,bK "/claim/cut.py" 274])
def CN (P:Params):Obj:=nI (Value.type "function") "add_callers" "add_callers" (dN BD 6) (fnAt BD 6) 3 (bK "cpy313.pstats" 203) (a_ 62)
noncomputable def YV (P:Params):Obj:=k9 #[]
def YU (P:Params):Obj:=nJ #[]
def YT (P:Params):Obj:=k9 #[bK "callers" 279,bK "nc" 280,bK "calls" 281]
noncomputable def YS (P:Params):Obj:=k9 #[]
def YR (P:Params):Obj:=nI cw "count_calls" "count_calls" (dN BD 7) (fnAt BD 7) 0 cw cw
def Gs (P:Params):Obj:=mH "code" (.fields #[bK "count_calls" 276,bK "count_calls" 277,bK "/claim/cut.py" 278,aW 63,aW 1,aW 0,aW 0,aW 3,a_ 64,Value.bool Bool.true,aW 181,a_ 65,cw,a_ 66,a_ 67,a_ 68,aW 282,aW 63,bK "/claim/cut.py" 283])
def CM (P:Params):Obj:=nI (Value.type "function") "count_calls" "count_calls" (dN BD 7) (fnAt BD 7) 3 (bK "cpy313.pstats" 203) (a_ 69)
def abT (P:Params):Obj:={cls:=Value.type "dict",data:=Data.dict #[c9 P "__name__" 165 (bK "cpy313.stringprep" 285),c9 P "__doc__" 166 cw,c9 P "__package__" 167 cw,c9 P "__loader__" 168 (Value.builtin "__main__.__loader__#opaque"),c9 P "__spec__" 169 cw,c9 P "__annotations__" 170 (a_ 6),c9 P "__builtins__" 171 (a_ 4),c9 P "__file__" 173 (bK "/claim/cut.py" 172),c9 P "__cached__" 174 cw,c9 P "ELLIPSIS_MARKER" 190 (bK "..." 189),c9 P "_ellipsis_match" 202 (a_ 21),c9 P "TupleComp" 246 (a_ 45),c9 P "add_func_stats" 264 (a_ 56),c9 P "add_callers" 275 (a_ 63),c9 P "count_calls" 284 (a_ 70),c9 P "b1_set" 346 (a_ 78)] 16}
noncomputable def YQ (P:Params):Obj:=mH "list" (.seq #[Value.int 173 287,Value.int 847 288,Value.int 6150 289,Value.int 6155 290,Value.int 6156 291,Value.int 6157 292,Value.int 8203 293,Value.int 8204 294,Value.int 8205 295,Value.int 8288 296,Value.int 65279 297])
noncomputable def YO (P:Params):Obj:=mH "range" (.fields #[Value.int 65024 298,Value.int 65040 299,Value.int 1 300])
noncomputable def YN (P:Params):Obj:={cls:=Value.type "list",data:=.seq #[Value.int 65024 303,Value.int 65025 304,Value.int 65026 305,Value.int 65027 306,Value.int 65028 307,Value.int 65029 308,Value.int 65030 309,Value.int 65031 310,Value.int 65032 311,Value.int 65033 312,Value.int 65034 313,Value.int 65035 314,Value.int 65036 315,Value.int 65037 316,Value.int 65038 317,Value.int 65039 318] 18}
def YM (P:Params):Obj:=mH "range_iterator" (.fields #[aW 65040,aW 0,aW 1])
noncomputable def YL (P:Params):Obj:=k9 #[]
def YK (P:Params):Obj:=mH "StopIteration" (.fields #[a_ 75,cw,cw,cw,Value.bool Bool.false,cw])
noncomputable def YJ (P:Params):Obj:=mH "list" (.seq #[Value.int 173 287,Value.int 847 288,Value.int 6150 289,Value.int 6155 290,Value.int 6156 291,Value.int 6157 292,Value.int 8203 293,Value.int 8204 294,Value.int 8205 295,Value.int 8288 296,Value.int 65279 297,Value.int 65024 303,Value.int 65025 304,Value.int 65026 305,Value.int 65027 306,Value.int 65028 307,Value.int 65029 308,Value.int 65030 309,Value.int 65031 310,Value.int 65032 311,Value.int 65033 312,Value.int 65034 313,Value.int 65035 314,Value.int 65036 315,Value.int 65037 316,Value.int 65038 317,Value.int 65039 318])
noncomputable def zA (P:Params):Obj:={cls:=Value.type "set",data:=Data.set #[(65024,Value.int 65024 303),(65025,Value.int 65025 304),(65026,Value.int 65026 305),(65027,Value.int 65027 306),(65028,Value.int 65028 307),(65029,Value.int 65029 308),(6150,Value.int 6150 289),(65030,Value.int 65030 309),(65031,Value.int 65031 310),(65032,Value.int 65032 311),(65033,Value.int 65033 312),(6155,Value.int 6155 290),(6156,Value.int 6156 291),(6157,Value.int 6157 292),(8203,Value.int 8203 293),(8204,Value.int 8204 294),(8205,Value.int 8205 295),(65034,Value.int 65034 313),(65035,Value.int 65035 314),(65036,Value.int 65036 315),(65037,Value.int 65037 316),(65038,Value.int 65038 317),(65039,Value.int 65039 318),(173,Value.int 173 287),(847,Value.int 847 288),(8288,Value.int 8288 296),(65279,Value.int 65279 297)] 29 {mask:=127,place:=#[0,1,2,3,4,5,6,7,8,9,10,11,12,13,14,15,16,17,18,19,20,21,22,45,79,96,127],dummies:=#[],finger:=0,led:=!(P.followText "set-order"),moves:=2,plain:=Bool.true}}
def YI (P:Params):Obj:=mH "list_iterator" (.fields #[cw,aW 27])
noncomputable def YH (P:Params):Obj:=k9 #[]
def YG (P:Params):Obj:=mH "StopIteration" (.fields #[a_ 80,cw,cw,cw,Value.bool Bool.false,cw])
def abS (P:Params):Obj:={cls:=Value.type "dict",data:=Data.dict #[c9 P "__name__" 165 (bK "cpy313.stringprep" 285),c9 P "__doc__" 166 cw,c9 P "__package__" 167 cw,c9 P "__loader__" 168 (Value.builtin "__main__.__loader__#opaque"),c9 P "__spec__" 169 cw,c9 P "__annotations__" 170 (a_ 6),c9 P "__builtins__" 171 (a_ 4),c9 P "__file__" 173 (bK "/claim/cut.py" 172),c9 P "__cached__" 174 cw,c9 P "ELLIPSIS_MARKER" 190 (bK "..." 189),c9 P "_ellipsis_match" 202 (a_ 21),c9 P "TupleComp" 246 (a_ 45),c9 P "add_func_stats" 264 (a_ 56),c9 P "add_callers" 275 (a_ 63),c9 P "count_calls" 284 (a_ 70),c9 P "b1_set" 346 (a_ 78),c9 P "in_table_b1" 353 (a_ 88)] 17}
def ZI (P:Params):Obj:=nJ #[aW 3,aW 0,a_ 20,aW 32,aW 0,a_ 27,aW 46,aW 0,a_ 55,aW 50,aW 0,a_ 62,aW 63,aW 0,a_ 69,aW 70,aW 0,a_ 87]
noncomputable def YE (P:Params):Obj:=k9 #[]
def YD (P:Params):Obj:=nJ #[]
def YC (P:Params):Obj:=k9 #[bK "code" 350]
noncomputable def YB (P:Params):Obj:=k9 #[]
def Yz (P:Params):Obj:=nI cw "in_table_b1" "in_table_b1" (dN BD 10) (fnAt BD 10) 0 cw cw
def Gr (P:Params):Obj:=mH "code" (.fields #[bK "in_table_b1" 347,bK "in_table_b1" 348,bK "/claim/cut.py" 349,aW 70,aW 1,aW 0,aW 0,aW 3,a_ 82,Value.bool Bool.true,aW 181,a_ 83,cw,a_ 84,a_ 85,a_ 86,aW 351,aW 70,bK "/claim/cut.py" 352])
def CL (P:Params):Obj:=nI (Value.type "function") "in_table_b1" "in_table_b1" (dN BD 10) (fnAt BD 10) 3 (bK "cpy313.stringprep" 285) (a_ 87)
def abR (P:Params):Obj:={cls:=Value.type "dict",data:=Data.dict #[c9 P "__name__" 165 (bK "cpy313.stringprep" 285),c9 P "__doc__" 166 cw,c9 P "__package__" 167 cw,c9 P "__loader__" 168 (Value.builtin "__main__.__loader__#opaque"),c9 P "__spec__" 169 cw,c9 P "__annotations__" 170 (a_ 6),c9 P "__builtins__" 171 (a_ 4),c9 P "__file__" 173 (bK "/claim/cut.py" 172),c9 P "__cached__" 174 cw,c9 P "ELLIPSIS_MARKER" 190 (bK "..." 189),c9 P "_ellipsis_match" 202 (a_ 21),c9 P "TupleComp" 246 (a_ 45),c9 P "add_func_stats" 264 (a_ 56),c9 P "add_callers" 275 (a_ 63),c9 P "count_calls" 284 (a_ 70),c9 P "b1_set" 346 (a_ 78),c9 P "in_table_b1" 353 (a_ 88),c9 P "b3_exceptions" 2304 (a_ 89)] 18}
def Ku (P:Params):Obj:={cls:=Value.type "dict",data:=Data.dict #[c9 P "__name__" 165 (bK "law_xb0035_01" 2320),c9 P "__doc__" 166 cw,c9 P "__package__" 167 cw,c9 P "__loader__" 168 (Value.builtin "__main__.__loader__#opaque"),c9 P "__spec__" 169 cw,c9 P "__annotations__" 170 (a_ 6),c9 P "__builtins__" 171 (a_ 4),c9 P "__file__" 173 (bK "/claim/cut.py" 172),c9 P "__cached__" 174 cw,c9 P "ELLIPSIS_MARKER" 190 (bK "..." 189),c9 P "_ellipsis_match" 202 (a_ 21),c9 P "TupleComp" 246 (a_ 45),c9 P "add_func_stats" 264 (a_ 56),c9 P "add_callers" 275 (a_ 63),c9 P "count_calls" 284 (a_ 70),c9 P "b1_set" 346 (a_ 78),c9 P "in_table_b1" 353 (a_ 88),c9 P "b3_exceptions" 2304 (a_ 89),c9 P "map_table_b3" 2312 (a_ 134),c9 P "in_table_c11" 2319 (a_ 141),c9 P "_law_products" 2327 (a_ 146),c9 P "_law_word" 2334 (a_ 153),c9 P "_law_typed" 2340 (a_ 158),c9 P "_law_read" 2346 (a_ 163),c9 P "_law_want" 2352 (a_ 168),c9 P "_law_down" 2358 (a_ 173),c9 P "_law_held" 2364 (a_ 178),c9 P "_law_rules" 2370 (a_ 183),c9 P "law" 2376 (a_ 188)] 29}
def ZH (P:Params):Obj:=nJ #[aW 3,aW 0,a_ 20,aW 32,aW 0,a_ 27,aW 46,aW 0,a_ 55,aW 50,aW 0,a_ 62,aW 63,aW 0,a_ 69,aW 70,aW 0,a_ 87,aW 73,aW 0,a_ 133,aW 78,aW 0,a_ 140,aW 81,aW 0,a_ 145,aW 83,aW 0,a_ 152,aW 85,aW 0,a_ 157,aW 93,aW 0,a_ 162,aW 104,aW 0,a_ 167,aW 107,aW 0,a_ 172,aW 124,aW 0,a_ 177,aW 134,aW 0,a_ 182,aW 152,aW 0,a_ 187]
noncomputable def Ti (P:Params):Obj:=k9 #[]
def Th (P:Params):Obj:=nJ #[]
def Tf (P:Params):Obj:=k9 #[bK "code" 2308,bK "r" 2309]
noncomputable def Te (P:Params):Obj:=k9 #[]
def Td (P:Params):Obj:=nI cw "map_table_b3" "map_table_b3" (dN BD 12) (fnAt BD 12) 0 cw cw
def BC (P:Params):Obj:=mH "code" (.fields #[bK "map_table_b3" 2305,bK "map_table_b3" 2306,bK "/claim/cut.py" 2307,aW 73,aW 1,aW 0,aW 0,aW 3,a_ 128,Value.bool Bool.true,aW 181,a_ 129,cw,a_ 130,a_ 131,a_ 132,aW 2310,aW 73,bK "/claim/cut.py" 2311])
def ye (P:Params):Obj:=nI (Value.type "function") "map_table_b3" "map_table_b3" (dN BD 12) (fnAt BD 12) 3 (bK "cpy313.stringprep" 285) (a_ 133)
noncomputable def Tc (P:Params):Obj:=k9 #[]
def Tb (P:Params):Obj:=nJ #[]
def Ta (P:Params):Obj:=k9 #[bK "code" 2316]
noncomputable def S' (P:Params):Obj:=k9 #[]
def S_ (P:Params):Obj:=nI cw "in_table_c11" "in_table_c11" (dN BD 13) (fnAt BD 13) 0 cw cw
def BA (P:Params):Obj:=mH "code" (.fields #[bK "in_table_c11" 2313,bK "in_table_c11" 2314,bK "/claim/cut.py" 2315,aW 78,aW 1,aW 0,aW 0,aW 3,a_ 135,Value.bool Bool.true,aW 181,a_ 136,cw,a_ 137,a_ 138,a_ 139,aW 2317,aW 78,bK "/claim/cut.py" 2318])
def yd (P:Params):Obj:=nI (Value.type "function") "in_table_c11" "in_table_c11" (dN BD 13) (fnAt BD 13) 3 (bK "cpy313.stringprep" 285) (a_ 140)
noncomputable def S9 (P:Params):Obj:=k9 #[]
def S8 (P:Params):Obj:=nJ #[]
def S7 (P:Params):Obj:=nI cw "_law_products" "_law_products" (dN BD 15) (fnAt BD 15) 0 cw cw
def Bz (P:Params):Obj:=mH "code" (.fields #[bK "_law_products" 2322,bK "_law_products" 2323,bK "/claim/cut.py" 2324,aW 81,aW 1,aW 0,aW 0,aW 3,a_ 142,Value.bool Bool.true,aW 181,a_ 143,cw,cw,cw,a_ 144,aW 2325,aW 81,bK "/claim/cut.py" 2326])
def yc (P:Params):Obj:=nI (Value.type "function") "_law_products" "_law_products" (dN BD 15) (fnAt BD 15) 3 (bK "law_xb0035_01" 2320) (a_ 145)
noncomputable def S6 (P:Params):Obj:=k9 #[]
def S5 (P:Params):Obj:=nJ #[]
def S4 (P:Params):Obj:=k9 #[bK "product" 2331]
noncomputable def S3 (P:Params):Obj:=k9 #[]
def S0 (P:Params):Obj:=nI cw "_law_word" "_law_word" (dN BD 16) (fnAt BD 16) 0 cw cw
def By (P:Params):Obj:=mH "code" (.fields #[bK "_law_word" 2328,bK "_law_word" 2329,bK "/claim/cut.py" 2330,aW 83,aW 1,aW 0,aW 0,aW 3,a_ 147,Value.bool Bool.true,aW 181,a_ 148,cw,a_ 149,a_ 150,a_ 151,aW 2332,aW 83,bK "/claim/cut.py" 2333])
def yb (P:Params):Obj:=nI (Value.type "function") "_law_word" "_law_word" (dN BD 16) (fnAt BD 16) 3 (bK "law_xb0035_01" 2320) (a_ 152)
noncomputable def SY (P:Params):Obj:=k9 #[]
def SX (P:Params):Obj:=nJ #[]
def SW (P:Params):Obj:=nI cw "_law_typed" "_law_typed" (dN BD 17) (fnAt BD 17) 0 cw cw
def Bx (P:Params):Obj:=mH "code" (.fields #[bK "_law_typed" 2335,bK "_law_typed" 2336,bK "/claim/cut.py" 2337,aW 85,aW 2,aW 0,aW 0,aW 3,a_ 154,Value.bool Bool.true,aW 181,a_ 155,cw,cw,cw,a_ 156,aW 2338,aW 85,bK "/claim/cut.py" 2339])
def ya (P:Params):Obj:=nI (Value.type "function") "_law_typed" "_law_typed" (dN BD 17) (fnAt BD 17) 3 (bK "law_xb0035_01" 2320) (a_ 157)
noncomputable def SV (P:Params):Obj:=k9 #[]
def SU (P:Params):Obj:=nJ #[]
def SS (P:Params):Obj:=nI cw "_law_read" "_law_read" (dN BD 18) (fnAt BD 18) 0 cw cw
def Bw (P:Params):Obj:=mH "code" (.fields #[bK "_law_read" 2341,bK "_law_read" 2342,bK "/claim/cut.py" 2343,aW 93,aW 2,aW 0,aW 0,aW 3,a_ 159,Value.bool Bool.true,aW 181,a_ 160,cw,cw,cw,a_ 161,aW 2344,aW 93,bK "/claim/cut.py" 2345])
def x' (P:Params):Obj:=nI (Value.type "function") "_law_read" "_law_read" (dN BD 18) (fnAt BD 18) 3 (bK "law_xb0035_01" 2320) (a_ 162)
noncomputable def SQ (P:Params):Obj:=k9 #[]
def SO (P:Params):Obj:=nJ #[]
def SN (P:Params):Obj:=nI cw "_law_want" "_law_want" (dN BD 19) (fnAt BD 19) 0 cw cw
def Bv (P:Params):Obj:=mH "code" (.fields #[bK "_law_want" 2347,bK "_law_want" 2348,bK "/claim/cut.py" 2349,aW 104,aW 2,aW 0,aW 0,aW 3,a_ 164,Value.bool Bool.true,aW 181,a_ 165,cw,cw,cw,a_ 166,aW 2350,aW 104,bK "/claim/cut.py" 2351])
def x_ (P:Params):Obj:=nI (Value.type "function") "_law_want" "_law_want" (dN BD 19) (fnAt BD 19) 3 (bK "law_xb0035_01" 2320) (a_ 167)
noncomputable def SM (P:Params):Obj:=k9 #[]
def SJ (P:Params):Obj:=nJ #[]
def SI (P:Params):Obj:=nI cw "_law_down" "_law_down" (dN BD 20) (fnAt BD 20) 0 cw cw
def Bu (P:Params):Obj:=mH "code" (.fields #[bK "_law_down" 2353,bK "_law_down" 2354,bK "/claim/cut.py" 2355,aW 107,aW 5,aW 0,aW 0,aW 3,a_ 169,Value.bool Bool.true,aW 181,a_ 170,cw,cw,cw,a_ 171,aW 2356,aW 107,bK "/claim/cut.py" 2357])
def x9 (P:Params):Obj:=nI (Value.type "function") "_law_down" "_law_down" (dN BD 20) (fnAt BD 20) 3 (bK "law_xb0035_01" 2320) (a_ 172)
noncomputable def SH (P:Params):Obj:=k9 #[]
def SG (P:Params):Obj:=nJ #[]
def SF (P:Params):Obj:=nI cw "_law_held" "_law_held" (dN BD 21) (fnAt BD 21) 0 cw cw
def Bt (P:Params):Obj:=mH "code" (.fields #[bK "_law_held" 2359,bK "_law_held" 2360,bK "/claim/cut.py" 2361,aW 124,aW 4,aW 0,aW 0,aW 3,a_ 174,Value.bool Bool.true,aW 181,a_ 175,cw,cw,cw,a_ 176,aW 2362,aW 124,bK "/claim/cut.py" 2363])
def x7 (P:Params):Obj:=nI (Value.type "function") "_law_held" "_law_held" (dN BD 21) (fnAt BD 21) 3 (bK "law_xb0035_01" 2320) (a_ 177)
noncomputable def SD (P:Params):Obj:=k9 #[]
def SA (P:Params):Obj:=nJ #[]
def Sz (P:Params):Obj:=nI cw "_law_rules" "_law_rules" (dN BD 22) (fnAt BD 22) 0 cw cw
def Bs (P:Params):Obj:=mH "code" (.fields #[bK "_law_rules" 2365,bK "_law_rules" 2366,bK "/claim/cut.py" 2367,aW 134,aW 6,aW 0,aW 0,aW 3,a_ 179,Value.bool Bool.true,aW 181,a_ 180,cw,cw,cw,a_ 181,aW 2368,aW 134,bK "/claim/cut.py" 2369])
def x2 (P:Params):Obj:=nI (Value.type "function") "_law_rules" "_law_rules" (dN BD 22) (fnAt BD 22) 3 (bK "law_xb0035_01" 2320) (a_ 182)
noncomputable def Sy (P:Params):Obj:=k9 #[]
def Br (P:Params):Obj:=nJ #[]
def Sw (P:Params):Obj:=nI cw "law" "law" (dN BD 23) (fnAt BD 23) 0 cw cw
def rY (P:Params):Obj:=mH "code" (.fields #[bK "law" 2371,bK "law" 2372,bK "/claim/cut.py" 2373,aW 152,aW 1,aW 0,aW 0,aW 3,a_ 184,Value.bool Bool.true,aW 181,a_ 185,cw,cw,cw,a_ 186,aW 2374,aW 152,bK "/claim/cut.py" 2375])
def xZ (P:Params):Obj:=nI (Value.type "function") "law" "law" (dN BD 23) (fnAt BD 23) 3 (bK "law_xb0035_01" 2320) (a_ 187)
def Yt (P:Params):Heap:=Heap.mk #[boot_o_0 P,boot_o_1 P,boot_o_2 P,boot_o_3 P,boot_o_4 P,boot_o_5 P,boot_o_6 P,boot_o_7 P,boot_o_8 P,boot_o_9 P,boot_o_10 P,NX P,NW P,NV P,NU P] {}
def T0 (P:Params):BT:=UN [boot_o_0 P,boot_o_1 P,boot_o_2 P,boot_o_3 P,boot_o_4 P,boot_o_5 P,boot_o_6 P,boot_o_7 P,boot_o_8 P,boot_o_9 P,boot_o_10 P,NX P,NW P,NV P,NU P] 0 .nil
def T1 (P:Params):BT:=UN [ZG P,ZF P,ZE P,ZD P,ZC P,Gz P,CR P,Zz P,Zy P,Zx P,Zw P,Zv P,Zu P,Zt P,Zs P,Zr P,Zq P,Zp P,Zo P,Gy P,CQ P,Zn P,Zm P,Zl P,Zk P,Zj P,Gx P,CP P,Zi P,Zh P,Zg P,Zf P,Ze P,Zd P,Zc P,Zb P,Za P,Y' P,Y_ P,Y0 P,Gw P,CO P,YZ P,Gu P,YY P,YX P,YW P,uH P,CN P,YV P,YU P,YT P,YS P,YR P,Gs P,CM P] 15 (((((T0 P).set 3 λU=>abU P)).set 12 λU=>ZJ P))
def T2 (P:Params):BT:=UN [YQ P,YO P,YN P,YM P,YL P,YK P,YJ P,zA P,YI P,YH P,YG P] 71 (((T1 P).set 3 λU=>abT P))
def T3 (P:Params):BT:=UN [YE P,YD P,YC P,YB P,Yz P,Gr P,CL P] 82 (((((T2 P).set 3 λU=>abS P)).set 12 λU=>ZI P))
set_option backward.match.sparseCases true
def EV:Env:={scope:=PG.main.scope,locals:=mainNs,globals:=mainNs,cells:=[],code:=.ref 13,frame:=some 14}
def CE:Code:=.body (behindTheImports PG) EV
noncomputable def ps (a b c d:Nat):Pos:=⟨a,b,c,d⟩
noncomputable abbrev BB:List Frame:=[topFrame (ps 0 0 0 0)]
def Sa (w:World) (os:OsState):Shared:=⟨Yt w.params,#[],{},187,os⟩
noncomputable def ST (T:Params->BT) (n k:Nat) (w:World) (os:OsState):SharedT:=⟨T w.params,n,{},#[],{},k,os⟩
theorem Lv (w:World) (os:OsState):topGo treeTable PG w 11 (some (.ref 6)) 12 ⟨boot_heap w.params,#[],boot_drawn,boot_toks,os⟩ (topStub PG)=some (Sa w os,⟨denote treeTable CE,CE,ps 0 0 0 0,BB⟩):=by kernel_rfl
theorem Fg (w:World) (os:OsState):segRun treeTable PG w 11 (some (.ref 6)) 1 1 (Sa w os) (blockOf (behindTheImports PG) EV CE (ps 0 0 0 0) BB)=some (.next,(ST T0 15 187 w os).abs,CE,ps 0 0 0 0):=by kernel_rfl
def m9:=@PySem.W.Fast.te10110043849684766642
def bg:=@PySem.W.Fast.te14364793385576792824
theorem aaR (w:World) (os:OsState):segRunT treeTable PG w 11 (some (.ref 6)) 1 434 (ST T0 15 187 w os) (piecesOf (BD.take 9) EV CE (ps 0 0 0 0) BB)=some (.next,ST T1 71 287 w os,CE,ps 68 0 68 8):=by
 rw[m9,bg]
 kernel_rfl
def JV (w:World) (os:OsState) (a b:Bool):Prop:=segRunT treeTable PG ((w.withFollow "set-order" a).withFollow "special-get-raises" b) 11 (some (.ref 6)) 1 999 (ST T1 71 287 ((w.withFollow "set-order" a).withFollow "special-get-raises" b) os) (piecesOf [BD[9]!] EV CE (ps 68 0 68 8) BB)=some (.next,ST T2 82 347 ((w.withFollow "set-order" a).withFollow "special-get-raises" b) os,CE,ps 69 0 69 6)
theorem QW (w:World) (os:OsState):JV w os false false:=by
 delta JV
 rw[m9,bg]
 kernel_rfl
theorem QV (w:World) (os:OsState):JV w os false true:=by
 delta JV
 rw[m9,bg]
 kernel_rfl
theorem QU (w:World) (os:OsState):JV w os true false:=by
 delta JV
 rw[m9,bg]
 kernel_rfl
theorem QT (w:World) (os:OsState):JV w os true true:=by
 delta JV
 rw[m9,bg]
 kernel_rfl
theorem aaQ (w:World) (os:OsState) (a b:Bool):JV w os a b:=by
 cases a<;>cases b
 ·exact QW w os
 ·exact QV w os
 ·exact QU w os
 ·exact QT w os
theorem aaP (w:World) (os:OsState):segRunT treeTable PG w 11 (some (.ref 6)) 1 30 (ST T2 82 347 w os) (piecesOf [BD[10]!] EV CE (ps 69 0 69 6) BB)=some (.next,ST T3 89 354 w os,CE,ps 70 0 71 30):=by
 rw[m9,bg]
 kernel_rfl
section
noncomputable abbrev SP:=Sem Value×Sem Value
noncomputable def gP (p:SP):Option (Sem Value)×Sem Value:=(some p.1,p.2)
noncomputable def M9 (d:Addr) (r:List SP):Sem Unit:=do
 let sub<-holding [.ref d] (subDict r)
 (holding [.ref d,.ref sub] (mergeMapping d (.ref sub) false)).onRaise λx=>do let _<-holding [.ref d,x] (runValue (.builtin "proto.let_go" {}))
noncomputable def A3 (d:Addr):List (List SP)->Sem Unit
 |[]=>pure ()
 |r::rs=>M9 d r>>=λU=>A3 d rs
theorem R0 {d:Addr} {r:List SP} {rs:List (List SP)}:A3 d (r::rs)=M9 d r>>=λU=>A3 d rs:=rfl
section
variable{f:Option (Sem Value)×Sem Value->Option Addr×List SP->Sem (ForInStep (Option Addr×List SP))} {fl:List SP->Option Addr->Sem (Option Addr)}
def bQ:=@List.length_cons
def bo:=@List.map_cons
def kP:=@List.cons_append
def i7:=@List.forIn_cons
def eV:=@List.append_assoc
theorem z8 (hf:∀p m run,f (gP p) (m,run)=if((run++[p]).length==17)=true then(fl (run++[p]) m>>=λm'=>pure (.yield (m',[])))else pure (.yield (m,run++[p]))):∀(c:List SP) (rest:List (Option (Sem Value)×Sem Value)) (m:Option Addr) (run:List SP),run.length+c.length<17->forIn (c.map gP++rest) (m,run) f=forIn rest (m,run++c) f:=by
 intro xx
 induction xx with
 |nil=>
  intro rest m run _
  simp
 |cons p c ih=>
  intro rest m run h
  rw[bQ]at h
  rw[bo,kP,i7,hf,af (by simp;exact Z34 h)]
  have :=ih rest m (run++[p]) (by simp;exact Z35 h)
  rw[eV]at this
  exact this
def bH:=@List.length_append
def eA:=@List.length_singleton
def cF:=@List.map_append
def jA:=@List.nil_append
def fB:=@List.map_nil
theorem xn (hf:∀p m run,f (gP p) (m,run)=if((run++[p]).length==17)=true then(fl (run++[p]) m>>=λm'=>pure (.yield (m',[])))else pure (.yield (m,run++[p])))
  (c:List SP) (rest:List (Option (Sem Value)×Sem Value)) (m:Option Addr) (h:c.length=17):forIn (c.map gP++rest) (m,[]) f=fl c m>>=λm'=>forIn rest (m',[]) f:=by
 obtain⟨c',x,rfl⟩:∃c' x,c=c'++[x]:=by
  rcases List.eq_nil_or_concat c with e|⟨c',x,e⟩
  ·subst e;simp at h
  ·exact⟨c',x,by rw[e,List.concat_eq_append]⟩
 rw[bH,eA]at h
 rw[cF,eV,z8 hf c' _ m [] (by simp;exact Z36 h),jA,bo,fB,kP,jA,i7,hf,ag (by simp[h])]
 rw[bind_assoc]
 rfl
def cV:=@List.mem_cons_self
def qM:=@List.flatten_cons
def b9:=@List.mem_cons_of_mem
theorem B7 (hf:∀p m run,f (gP p) (m,run)=if((run++[p]).length==17)=true then(fl (run++[p]) m>>=λm'=>pure (.yield (m',[])))else pure (.yield (m,run++[p])))
  (d:Addr) (nJ:∀c,c.length=17->fl c (some d)=M9 d c>>=λU=>pure (some d)):∀(cs:List (List SP)) (rest:List (Option (Sem Value)×Sem Value)),(∀c∈cs,c.length=17)->
  forIn (cs.flatten.map gP++rest) (some d,[]) f=A3 d cs>>=λU=>forIn rest (some d,[]) f:=by
 intro xx
 induction xx with
 |nil=>
  intro rest _
  exact(pure_bind () λU=>forIn rest (some d,[]) f).symm
 |cons c cs ih=>
  intro rest h
  have hc:=h c cV
  rw[qM,cF,eV,xn hf c _ _ hc,nJ c hc]
  simp only[R0,bind_assoc,pure_bind]
  congr 1
  funext _
  exact ih rest λx hx=>h x (b9 _ hx)
end
end
def eh:=@List.append_nil
theorem aab (c0:List SP) (cs:List (List SP)) (last:List SP) (h0:c0.length=17) (hc:∀c∈cs,c.length=17) (h1:0<last.length) (h2:last.length<17):
  dictDisplay ((c0++(cs.flatten++last)).map gP)=subDict c0>>=λd=>A3 d cs>>=λU=>M9 d last>>=λU=>pure (.ref d):=by
 unfold dictDisplay
 extract_lets flush main run
 have e0:flush c0 none=subDict c0>>=λd=>pure (some d):=by
  simp only[flush]
  rw[af (by simp[List.isEmpty_iff];intro q;subst q;simp at h0)]
 have e1:∀c d,c≠[]->flush c (some d)=M9 d c>>=λU=>pure (some d):=λc d h=>by
  simp only[flush]
  rw[af (by simpa[List.isEmpty_iff]using h)]
  simp only[M9,bind_assoc]
 rw[cF]
 rw[xn (fl:=flush) (λp m run=>rfl) c0 _ _ h0,e0]
 simp only[bind_assoc,pure_bind]
 congr 1
 funext d
 rw[cF,B7 (fl:=flush) (λp m run=>rfl) d (λc h=>e1 c d (by intro q;subst q;simp at h)) cs _ hc]
 simp only[bind_assoc]
 congr 1
 funext _
 rw[<-eh (List.map gP last),z8 (fl:=flush) (λp m run=>rfl) last [] (some d) [] (by simpa using h2)]
 simp only[List.forIn_nil,pure_bind,jA]
 rw[e1 last d (by intro q;subst q;simp at h1)]
 simp only[bind_assoc,pure_bind]
set_option backward.match.sparseCases false
noncomputable def aaw (body:List Stmt) (i:Nat):List (Option PySem.Expr)×List PySem.Expr×Pos×Pos×List PySem.Expr:=match body[i]? with
 |some (.Assign tg (.Dict ks vs p2) p3)=>(ks,vs,p2,p3,tg)
 |_=>([],[],ps 0 0 0 0,ps 0 0 0 0,[])
def Vn:=aaw BD 11
def KS:=Vn.1
def VS:=Vn.2.1
def pD:Pos:=Vn.2.2.1
def pA:Pos:=Vn.2.2.2.1
def TG:=Vn.2.2.2.2
def evK:Option PySem.Expr->Sem Value
 |some k=>eval k EV
 |none=>pure .none
def PL:List SP:=(KS.zip VS).map λx=>(evK x.1,do let y<-eval x.2 EV;standAt pD;pure y)
noncomputable def nC {β:Type} (l:List β) (k:Nat):List β:=(l.drop (17*k)).take 17
noncomputable def tok (i:Nat):Nat:=if i<646 then 354+51*(i/17)+3*(i %17)else 2292+2*(i-646)
def rE:List DictEntry:=(KS.zip VS).zipIdx.map λx=>match x.1 with
 |(some (.Constant (.int n) _ _),.Constant (.str y) _ _)=>⟨n,.int n (tok x.2),.str y (tok x.2+1)⟩
 |_=>default
noncomputable abbrev wv (w:World) (b:Bool):World:=w.withFollow "special-get-raises" b
set_option backward.match.sparseCases true
section
abbrev bw:=List Value
def Go {α:Type} (w:World) (x:Sem α) (s:SharedT) (a:α) (s':SharedT) (n:Nat):Prop:=
 ∀(K:α->Sem Fin) (H:Value->Sem Fin) (gd:Bool->Bool) (lv:bw->bw),segGoT treeTable PG w 11 (some (.ref 6)) 1 n s ⟨x.wrap K H gd lv,CE,pD,BB⟩=some (s',⟨K a,CE,pD,BB⟩)
section
variable{w:World} {α β:Type} {s s' xD:SharedT} {n m:Nat}
theorem DB {tb p ann k6 b}:∀{n m:Nat} {s s' xD:SharedT} {t t' t'':Thread},segGoT tb p w k6 ann b n s t=some (s',t')->segGoT tb p w k6 ann b m s' t'=some (xD,t'')->segGoT tb p w k6 ann b (n+m) s t=some (xD,t''):=by
 intro xx
 induction xx with
 |zero=>
  intro m s s' xD t t' t'' h k
  have e:some (s,t)=some (s',t'):=h
  cases e
  rw[cc];exact k
 |succ n ih=>
  intro m s s' xD t t' t'' h k
  rw[show n+1+m=n+m+1 by exact Z37]
  unfold segGoT at h |-
  cases he:endAt b t with
  |some f=>rw[he]at h;cases h
  |none=>
   rw[he]at h
   cases hk:stepOk k6 ann t with
   |false=>rw[hk]at h;cases h
   |true=>
    rw[hk]at h
    cases hs:stepT (denote tb) p w s t with
    |none=>rw[hs]at h;cases h
    |some r=>obtain⟨mJ,aaD⟩:=r;rw[hs]at h;exact ih h k
theorem Go.pure (a:α):Go w (pure a) s a s 0:=λK H gd lv=>rfl
theorem Go.bind {x:Sem α} {f:α->Sem β} {a:α} {b:β} (h:Go w x s a s' n) (h':Go w (f a) s' b xD m):Go w (x>>=f) s b xD (n+m):=λK H gd lv=>by
 rw[Sem.bind_eq_wrap',Sem.wrap_wrap]
 exact DB (h _ _ _ _) (h' K H gd lv)
theorem Go.onRaise {x:Sem α} {g:Value->Sem Unit} {a:α} (h:Go w x s a s' n):Go w (x.onRaise g) s a s' n:=λK H gd lv=>by
 rw[Sem.onRaise_eq_wrap,Sem.wrap_wrap]
 exact h _ _ _ _
theorem Go.holding {x:Sem α} {vs:bw} {a:α} (h:Go w x s a s' n):Go w (holding vs x) s a s' n:=by
 unfold PySem.holding
 split
 ·exact h
 ·intro K H gd lv
  rw[Sem.keep_eq_wrap,Sem.wrap_wrap]
  exact h _ _ _ _
abbrev mO:=Option Value
def qZ:=@Nat.ble_eq_true_of_le
theorem Go.loadPart {a:Addr} {q:mO} {o:Obj} (h:s.tree.get a=some o) (ha:alive o=some o) (hn:a<s.n):Go w (loadPart a q) s o s 1:=λK H gd lv=>by
 obtain⟨T,n,life,gens,drawn,toks,os⟩:=s
 have hb:Nat.blt a n=true:=qZ hn
 have h:T.get a=some o:=h
 have st:stepT (denote treeTable) PG w ⟨T,n,life,gens,drawn,toks,os⟩ ⟨.load a q (λx=>K x),CE,pD,BB⟩=some (⟨T,n,life,gens,drawn,toks,os⟩,⟨K o,CE,pD,BB⟩):=by
  simp only[stepT,hb,h,ha]
 show(match stepT (denote treeTable) PG w ⟨T,n,life,gens,drawn,toks,os⟩ ⟨.load a q (λx=>K x),CE,pD,BB⟩with|some (s',t')=>some (s',t')|none=>none)=_
 rw[st]
theorem Go.updatePart {a:Addr} {q:mO} {f:Obj->Obj} {o:Obj} (h:s.tree.get a=some o) (ha:alive o=some o) (hn:a<s.n) (h11:Nat.ble 11 a=true):Go w (updatePart a q f) s () {s with tree:=s.tree.set a f} 1:=λK H gd lv=>by
 obtain⟨T,n,life,gens,drawn,toks,os⟩:=s
 have hb:Nat.blt a n=true:=qZ hn
 have h:T.get a=some o:=h
 have st:stepT (denote treeTable) PG w ⟨T,n,life,gens,drawn,toks,os⟩ ⟨.update a q f (λx=>K x),CE,pD,BB⟩=some (⟨T.set a f,n,life,gens,drawn,toks,os⟩,⟨K (),CE,pD,BB⟩):=by
  simp only[stepT,hb,h,ha]
 have ok:stepOk 11 (some (.ref 6)) ⟨.update a q f (λx=>K x),CE,pD,BB⟩=true:=by
  show(true&&(Nat.ble 11 a||_||_||_))=true
  rw[h11];rfl
 show(match stepOk 11 (some (.ref 6)) ⟨.update a q f (λx=>K x),CE,pD,BB⟩with|false=>none|true=>match stepT (denote treeTable) PG w ⟨T,n,life,gens,drawn,toks,os⟩ ⟨.update a q f (λx=>K x),CE,pD,BB⟩with|some (s',t')=>some (s',t')|none=>none)=_
 rw[ok,st]
end
end
section
section
variable{w:World} {s s' xD:SharedT} {n m:Nat}
noncomputable def dO (E:Array DictEntry) (ep:Nat):Obj:={cls:=.type "dict",data:=.dict E ep}
theorem nh {a:Addr} {q:mO} {E:Array DictEntry} {ep:Nat} (h:s.tree.get a=some (dO E ep)) (hn:a<s.n):Go w (dictEntries a q) s E s 1:=by
 have :=Go.bind (f:=λo:Obj=>(match o.data with| .dict es _=>(pure es:Sem (Array DictEntry))|_=>unsupported "internal:not-a-dict")) (Go.loadPart (w:=w) (q:=q) h rfl hn) (Go.pure E)
 exact this
theorem Ai {a:Addr} {q:mO} {E:Array DictEntry} {ep:Nat} (h:s.tree.get a=some (dO E ep)) (hn:a<s.n):Go w (dictEpoch a q) s ep s 1:=by
 have :=Go.bind (f:=λo:Obj=>(match o.data with| .dict _ n=>(pure n:Sem Nat)|_=>unsupported "internal:not-a-dict")) (Go.loadPart (w:=w) (q:=q) h rfl hn) (Go.pure ep)
 exact this
def eF:=@List.mem_range
def q_:=@Array.getElem?_eq_getElem
def iw:=@Option.map_some
theorem EG {E:Array DictEntry} {h:Int} (hN:∀x∈E,x.hash≠h):placesWithHash E.size (λi=>Option.map (λx=>x.hash) E[i]?) h=[]:=by
 unfold placesWithHash
 rw[List.filter_eq_nil_iff]
 intro i hi
 have hi:=eF.1 hi
 show¬((Option.map (λx:DictEntry=>x.hash) E[i]?)==some h)=true
 rw[q_ hi]
 simp only[iw,beq_iff_eq,Option.some.injEq]
 exact hN _ (Array.getElem_mem hi)
theorem Mw {E:Array DictEntry} {ep:Nat} {h i:Int} {t:Tok} (hE:s.tree.get 89=some (dO E ep)) (hn:89<s.n) (hN:∀x∈E,x.hash≠h):Go w (dictFind 89 (.int i t) h) s none s 1:=by
 unfold dictFind
 refine Go.holding ?_
 refine Go.bind (n:=1) (m:=0) (nh hE hn) ?_
 dsimp only
 rw[EG hN]
 exact Go.pure none
theorem Rh {E:Array DictEntry} {ep:Nat} {h i:Int} {t:Tok} {v:Value} (hE:s.tree.get 89=some (dO E ep)) (hn:89<s.n) (hs:E.size<=10000) (hN:∀x∈E,x.hash≠h):
  Go w (dictPut 89 h (.int i t) v) s () {s with tree:=s.tree.set 89 (Obj.mapDictKeys (·.push ⟨h,.int i t,v⟩))} 4:=by
 unfold dictPut
 refine Go.bind (n:=1) (m:=3) (Mw hE hn hN) ?_
 show Go w (updateDictKeys 89 (λx=>x.push ⟨h,.int i t,v⟩)) s () _ 3
 unfold updateDictKeys
 refine Go.bind (n:=1) (m:=2) (Go.loadPart hE rfl hn) ?_
 show Go w (do updatePart 89 none (Obj.mapDictKeys λx=>x.push ⟨h,.int i t,v⟩);lookBehind 89 none) s () _ 2
 refine Go.bind (n:=1) (m:=1) (Go.updatePart hE rfl hn (by decide)) ?_
 have g:(s.tree.set 89 (Obj.mapDictKeys λx=>x.push ⟨h,.int i t,v⟩)).get 89=some (dO (E.push ⟨h,.int i t,v⟩) (ep+1)):=by
  rw[BT.get_set,ag rfl,hE];rfl
 unfold lookBehind
 refine Go.bind (n:=1) (m:=0) (Go.loadPart g rfl hn) ?_
 have :(dO (E.push ⟨h,.int i t,v⟩) (ep+1)).data.pastItsLine=none:=by
  show(if(E.push ⟨h,.int i t,v⟩).size>sizeLine+1 then some "dict:memory" else none)=none
  rw[af]
  rw[PySem.sizeLine_eq,Array.size_push];exact Z38 hs
 rw[this]
 exact Go.pure ()
def jx:=@BT.get_node
def ee:=@BT.set_node
theorem Eu:∀{t:BT} {i:Nat} {v:Obj} (f:Obj->Obj),t.get i=some v->t.set i f=t.set i λU=>f v:=by
 intro xx
 induction xx with
 |nil=>
  intro i v f h
  exact rfl
 |node x l r il ir=>
  intro i v f h
  rw[jx]at h
  rw[ee,ee]
  by_cases hi:i=0
  ·rw[ag hi]at h |-;cases h;rw[ag hi]
  ·rw[af hi]at h |-
   rw[af hi]
   by_cases p:i %2=1
   ·rw[ag p]at h |-;rw[ag p,il f h]
   ·rw[af p]at h |-;rw[af p,ir f h]
theorem set_set (f g:Obj->Obj):∀{t:BT} {i:Nat},(t.set i f).set i g=t.set i λx=>g (f x):=by
 intro xx
 induction xx with
 |nil=>
  intro i
  exact rfl
 |node x l r il ir=>
  intro i
  rw[ee,ee]
  by_cases hi:i=0
  ·rw[ag hi,ag hi,ee,ag hi]
  ·rw[af hi,af hi]
   by_cases p:i %2=1
   ·rw[ag p,ag p,ee,af hi,ag p,il]
   ·rw[af p,af p,ee,af hi,af p,ir]
theorem set_same:∀{t:BT} {i:Nat} {v:Obj},t.get i=some v->(t.set i λU=>v)=t:=by
 intro xx
 induction xx with
 |nil=>
  intro i v h
  exact rfl
 |node x l r il ir=>
  intro i v h
  rw[jx]at h
  rw[ee]
  by_cases hi:i=0
  ·rw[ag hi]at h |-;cases h;rfl
  ·rw[af hi]at h |-
   by_cases p:i %2=1
   ·rw[ag p]at h |-;rw[il h]
   ·rw[af p]at h |-;rw[ir h]
def Oz (e:DictEntry):Prop:=∃h i t v,e=⟨h,.int i t,v⟩
def oG:=@List.filterMap_cons
def jc:=@List.nodup_append
theorem L3 {a:Addr} {S:Array DictEntry} {es:Nat} (ha:a≠89) {B:Nat->PUnit->Sem (ForInStep PUnit)}
  (hB:∀(s:SharedT) (E:Array DictEntry) (ep i:Nat) (e:DictEntry),s.tree.get 89=some (dO E ep)->s.tree.get a=some (dO S es)->89<s.n->a<s.n->S[i]?=some e->(∀x∈E,x.hash≠e.hash)->E.size<=10000->
   Go w (B i PUnit.unit) s (.yield PUnit.unit) {s with tree:=s.tree.set 89 λU=>dO (E.push e) (ep+1)} 6):∀(l:ar) (s:SharedT) (E:Array DictEntry) (ep:Nat),s.tree.get 89=some (dO E ep)->s.tree.get a=some (dO S es)->89<s.n->a<s.n->(∀i∈l,i<S.size)->((E.toList++l.filterMap (S[·]?)).map (·.hash)).Nodup->E.size+l.length<=10000->
   Go w (forIn l PUnit.unit B) s PUnit.unit {s with tree:=s.tree.set 89 λU=>dO (E++(l.filterMap (S[·]?)).toArray) (ep+l.length)} (6*l.length):=by
 intro xx
 induction xx with
 |nil=>
  intro s E ep hE hS h1 h2 _ _ _
  have :s.tree.set 89 (λU=>dO (E++(([]:ar).filterMap (S[·]?)).toArray) (ep+([]:ar).length))=s.tree:=by
   have :=set_same hE
   simpa using this
  rw[this]
  exact Go.pure _
 |cons i l ih=>
  intro s E ep hE hS h1 h2 hi hn hz
  have jT:=hi i cV
  have he:S[i]?=some S[i]:=q_ jT
  rw[oG,he]at hn
  rw[bQ]at hz
  have U5:∀x∈E,x.hash≠S[i].hash:=λx hx q=>by
   rw[cF,jc]at hn
   exact hn.2.2 x.hash (aY.2 ⟨x,Array.mem_toList_iff.2 hx,rfl⟩) S[i].hash (by simp) q
  rw[i7,show 6*(i::l).length=6+6*l.length by rw[bQ];exact Z39]
  refine Go.bind (hB s E ep i _ hE hS h1 h2 he U5 (by exact Z40 hz)) ?_
  have g1:(s.tree.set 89 λU=>dO (E.push S[i]) (ep+1)).get 89=some (dO (E.push S[i]) (ep+1)):=by rw[BT.get_set,ag rfl,hE];rfl
  have g2:(s.tree.set 89 λU=>dO (E.push S[i]) (ep+1)).get a=some (dO S es):=by rw[BT.get_set,af ha,hS]
  have ih:=ih {s with tree:=s.tree.set 89 λU=>dO (E.push S[i]) (ep+1)} (E.push S[i]) (ep+1) g1 g2 h1 h2 (λj hj=>hi j (b9 _ hj)) (by simpa using hn) (by rw[Array.size_push];exact Z41 hz)
  dsimp only at ih
  rw[set_set]at ih
  have e1:(E.push S[i])++(l.filterMap (S[·]?)).toArray=E++((i::l).filterMap (S[·]?)).toArray:=by
   rw[oG,he]
   apply Array.toList_inj.1
   simp
  rw[e1,show ep+1+l.length=ep+(i::l).length by rw[bQ];exact Z42]at ih
  exact ih
end
end
section
variable{w:World} {s s' xD:SharedT} {n m:Nat}
theorem range_all (S:Array DictEntry):(List.range S.size).filterMap (S[·]?)=S.toList:=by
 have :∀l:List DictEntry,(List.range l.length).filterMap (l[·]?)=l:=by
  intro l
  induction l with
  |nil=>rfl
  |cons a l ih=>
   rw[bQ,List.range_succ_eq_map,oG,List.filterMap_map]
   simp only[List.getElem?_cons_zero]
   congr 1
 have h:=this S.toList
 simpa using h
def ez:=@List.length_range
theorem IS {a:Addr} {S E:Array DictEntry} {es ep n1 n2:Nat} (ha:a≠89) (abI:(a==sysModules)=false) (hI:Go w (isInstance (.ref a) (.type "dict")) s true s n1) (hJ:Go w (specialOf (.ref a) (Str.ofString "__iter__")) s (some (.builtin "dict.__iter__")) s n2)
  (hE:s.tree.get 89=some (dO E ep)) (sM:E.isEmpty=false) (hS:s.tree.get a=some (dO S es)) (h1:89<s.n) (h2:a<s.n) (D3:∀e∈S,Oz e) (hnd:((E.toList++S.toList).map (·.hash)).Nodup) (hz:E.size+S.size<=10000):
  Go w (mergeMapping 89 (.ref a) false) s () {s with tree:=s.tree.set 89 λU=>dO (E++S) (ep+S.size)} (n1+(n2+(1+(1+(1+(6*S.size+0)))))):=by
 unfold mergeMapping
 refine Go.bind hI ?_
 dsimp only
 rw[ag rfl]
 refine Go.bind hJ ?_
 have e1:((some (Value.builtin "dict.__iter__"))==some (Value.builtin "dict.__iter__"))=true:=by decide
 rw[e1]
 show Go w (if(a==sysModules)=true then _ else _) _ _ _ _
 rw[af (by rw[abI];decide)]
 refine Go.bind (nh hE h1) ?_
 rw[af (by rw[sM];decide)]
 refine Go.bind (nh hS h2) ?_
 refine Go.bind (Ai hS h2) ?_
 refine Go.bind (s':={s with tree:=s.tree.set 89 λU=>dO (E++S) (ep+S.size)}) (a:=PUnit.unit) ?_ (Go.pure _)
 have lp:=L3 (w:=w) (a:=a) (S:=S) (es:=es) ha (B:=λi __s=>do
   let __do_lift<-dictEntries a
   match __do_lift[i]? with
    |some e=>do
     holding [e.key,e.val] (dictPut 89 e.hash e.key e.val)
     let __do_lift<-dictEpoch a
     if(__do_lift !=es)=true then do
       unsupported "dict.changed-during-merge"
       pure (ForInStep.yield PUnit.unit)
      else pure (ForInStep.yield PUnit.unit)
    |x=>do
     unsupported "dict.changed-during-merge"
     pure (ForInStep.yield PUnit.unit)) (λs E ep i e hE hS h1 h2 he U5 yY=>?_) (List.range S.size) s E ep hE hS h1 h2 (λi hi=>eF.1 hi) (by rw[range_all];exact hnd) (by rw[ez];exact hz)
 ·rw[range_all,ez]at lp
  have e2:E++S.toList.toArray=E++S:=by simp
  rw[e2]at lp
  exact lp
 ·refine Go.bind (n:=1) (m:=5) (nh hS h2) ?_
  rw[he]
  dsimp only
  obtain⟨h,k,t,v,rfl⟩:=D3 e (Array.mem_of_getElem? he)
  have g1:(s.tree.set 89 (Obj.mapDictKeys (·.push ⟨h,.int k t,v⟩)))=s.tree.set 89 λU=>dO (E.push ⟨h,.int k t,v⟩) (ep+1):=by rw[Eu _ hE];rfl
  have pg:=Rh (w:=w) (i:=k) (t:=t) (v:=v) hE h1 yY U5
  rw[g1]at pg
  refine Go.bind (n:=4) (m:=1) (Go.holding pg) ?_
  have g2:(s.tree.set 89 λU=>dO (E.push ⟨h,.int k t,v⟩) (ep+1)).get a=some (dO S es):=by rw[BT.get_set,af ha,hS]
  refine Go.bind (n:=1) (m:=0) (Ai g2 h2) ?_
  rw[af (by simp)]
  exact Go.pure _
end
section
variable{w:World} {s s' xD:SharedT} {n m:Nat}
theorem xe {a:Addr} {S:Array DictEntry} {es:Nat} (hS:s.tree.get a=some (dO S es)) (h2:a<s.n):Go w (typeOf (.ref a)) s (.type "dict") s 1:=
 Go.bind (f:=λo:Obj=>(pure o.cls:Sem Value)) (Go.loadPart hS rfl h2) (Go.pure _)
theorem Me {a:Addr} {S:Array DictEntry} {es:Nat} (hS:s.tree.get a=some (dO S es)) (h2:a<s.n):Go w (isInstance (.ref a) (.type "dict")) s true s 1:=by
 unfold isInstance
 refine Go.bind (n:=1) (m:=0) (xe hS h2) ?_
 have :isSubtype (.type "dict") (.type "dict")=pure true:=by rw[isSubtype_type];kernel_rfl
 rw[this]
 exact Go.pure _
theorem Lh {a:Addr} {S:Array DictEntry} {es:Nat} (hS:s.tree.get a=some (dO S es)) (h2:a<s.n):Go w (specialOf (.ref a) (Str.ofString "__iter__")) s (some (.builtin "dict.__iter__")) s 1:=by
 unfold specialOf
 refine Go.bind (n:=1) (m:=0) (xe hS h2) ?_
 have :typeLookup (.type "dict") "__iter__"=pure (some (.builtin "dict.__iter__")):=by rw[typeLookup_type,builtinLookup_eq_fast];kernel_rfl
 rw[this]
 exact Go.pure _
end
def om:=@Nat.div_add_mod
theorem Yx {a b:Nat} (n:a≠b) (pa:a %2=1) (pb:b %2=1):a/2≠b/2:=λe=>n (by rw[<-om a 2,<-om b 2,e,pa,pb])
theorem Af {a:Nat} (ha:a≠0) (pa:¬a %2=1):0<a/2:=Nat.pos_of_ne_zero λz=>ha (by rw[<-om a 2,z,Nat.mod_two_ne_one.1 pa])
theorem Yy {a b:Nat} (n:a≠b) (ha:a≠0) (hb:b≠0) (pa:¬a %2=1) (pb:¬b %2=1):a/2-1≠b/2-1:=λe=>n (by rw[<-om a 2,<-om b 2,Nat.sub_one_cancel (Af ha pa) (Af hb pb) e,Nat.mod_two_ne_one.1 pa,Nat.mod_two_ne_one.1 pb])
def gk:=@BT.ins_node
theorem Lk {o:Obj} (f:Obj->Obj) {t:BT}:∀{a b:Nat},a≠b->((t.ins a o).get a).isSome=true->(t.ins a o).set b f=(t.set b f).ins a o:=by
 induction t with
 |nil=>
  intro a b n h
  have e:(BT.nil.ins a o)= .node o .nil .nil:=rfl
  rw[e,jx]at h
  have ha:a=0:=by
   by_cases q:a=0
   ·exact q
   ·exfalso;revert h;by_cases p:a %2=1<;>simp[q,p,BT.get]
  subst ha
  show(BT.node o .nil .nil).set b f= .node o .nil .nil
  rw[ee,af (Ne.symm n)]
  by_cases p:b %2=1
  ·rw[ag p];rfl
  ·rw[af p];rfl
 |node v l r il ir=>
  intro a b n h
  rw[gk]at h |-
  rw[ee v l r b]
  by_cases ha:a=0
  ·subst ha
   have hb:b≠0:=Ne.symm n
   rw[ag rfl,ee,af hb,af hb]
   by_cases p:b %2=1
   ·rw[ag p,ag p,gk,ag rfl]
   ·rw[af p,af p,gk,ag rfl]
  ·rw[af ha]at h |-
   by_cases hb:b=0
   ·subst hb
    by_cases pa:a %2=1
    ·rw[ag pa,ee,ag rfl,ag rfl,gk,af ha,ag pa]
    ·rw[af pa,ee,ag rfl,ag rfl,gk,af ha,af pa]
   ·by_cases pa:a %2=1
    ·rw[ag pa]at h |-
     rw[jx,af ha,ag pa]at h
     rw[ee,af hb,af hb]
     by_cases pb:b %2=1
     ·rw[ag pb,ag pb,gk,af ha,ag pa,il (Yx n pa pb) h]
     ·rw[af pb,af pb,gk,af ha,ag pa]
    ·rw[af pa]at h |-
     rw[jx,af ha,af pa]at h
     rw[ee,af hb,af hb]
     by_cases pb:b %2=1
     ·rw[ag pb,ag pb,gk,af ha,af pa]
     ·rw[af pb,af pb,gk,af ha,af pa,ir (Yy n ha hb pa pb) h]
theorem yN {o:Obj} (f:Obj->Obj):∀{t:BT} {a:Nat},((t.ins a o).get a).isSome=true->(t.ins a o).set a f=t.ins a (f o):=by
 intro xx
 induction xx with
 |nil=>
  intro a h
  have e:(BT.nil.ins a o)= .node o .nil .nil:=rfl
  rw[e,jx]at h
  have ha:a=0:=by
   by_cases q:a=0
   ·exact q
   ·exfalso;revert h;by_cases p:a %2=1<;>simp[q,p,BT.get]
  subst ha
  rfl
 |node v l r il ir=>
  intro a h
  rw[gk]at h |-
  rw[gk]
  by_cases ha:a=0
  ·subst ha
   rw[ag rfl,ag rfl,ee,ag rfl]
  ·rw[af ha]at h |-
   rw[af ha]
   by_cases pa:a %2=1
   ·rw[ag pa]at h |-
    rw[jx,af ha,ag pa]at h
    rw[ag pa,ee,af ha,ag pa,il h]
   ·rw[af pa]at h |-
    rw[jx,af ha,af pa]at h
    rw[af pa,ee,af ha,af pa,ir h]
noncomputable def tg (T:BT) (c:Nat->Obj) (o:Obj):Nat->BT
 |0=>T.ins 89 o
 |k+1=>(tg T c o k).ins (90+k) (c (k+1))
theorem WR {T:BT} {c:Nat->Obj} {o:Obj} (hs:∀k,k<39->((tg T c o k).get (89+k)).isSome=true):∀{k:Nat},k<39->(tg T c o k).get 89=some o:=by
 intro xx
 induction xx with
 |zero=>
  intro h
  have :=BT.get_ins o T 89 (hs 0 h) 89
  rw[ag rfl]at this
  exact this
 |succ k ih=>
  intro h
  have q:=hs (k+1) h
  rw[show 89+(k+1)=90+k by exact Z43]at q
  have :=BT.get_ins (c (k+1)) (tg T c o k) (90+k) q 89
  rw[af (by exact Z44),ih (by exact Z45 h)]at this
  exact this
theorem K9 {T:BT} {c:Nat->Obj} {o:Obj} (hs:∀k,k<39->((tg T c o k).get (89+k)).isSome=true) {k:Nat} (h:k+1<39):(tg T c o (k+1)).get (90+k)=some (c (k+1)):=by
 have q:=hs (k+1) h
 rw[show 89+(k+1)=90+k by exact Z43]at q
 have :=BT.get_ins (c (k+1)) (tg T c o k) (90+k) q (90+k)
 rw[ag rfl]at this
 exact this
theorem Qf {T:BT} {c:Nat->Obj} {o:Obj} (o':Obj) (hs:∀k,k<39->((tg T c o k).get (89+k)).isSome=true):∀{k:Nat},k<39->(tg T c o k).set 89 (λU=>o')=tg T c o' k:=by
 intro xx
 induction xx with
 |zero=>
  intro h
  exact yN _ (hs 0 h)
 |succ k ih=>
  intro h
  have q:=hs (k+1) h
  rw[show 89+(k+1)=90+k by exact Z43]at q
  have :=Lk (λU=>o') (b:=89) (by exact Z46) q
  rw[ih (by exact Z45 h)]at this
  exact this
def cO (k:Nat):Obj:=dO (nC rE k).toArray (nC rE k).length
theorem Qg (o:Obj) (P:Params):(List.range 39).all (λk=>((tg (T3 P) cO o k).get (89+k)).isSome)=true:=by kernel_rfl
def aI:=@List.all_eq_true
theorem K_ (o:Obj) (P:Params) (k:Nat) (h:k<39):((tg (T3 P) cO o k).get (89+k)).isSome=true:=aI.1 (Qg o P) k (eF.2 h)
def SE (k:Nat) (o:Obj) (t:Nat) (w:World) (os:OsState):SharedT:=⟨tg (T3 w.params) cO o k,90+k,{},#[],{},t,os⟩
noncomputable def tk (k:Nat):Nat:=if k<38 then 405+51*k else 2304
def eo (k:Nat):List DictEntry:=rE.take (17*(k+1))
def oo (k:Nat):Obj:=dO (eo k).toArray (eo k).length
noncomputable def sn (k:Nat):Nat:=if k<38 then 223 else 53
def fx (k:Nat):Prop:=∀(w:World) (os:OsState) (b:Bool) (o:Obj),Go (wv w b) (holding [.ref 89] (subDict (nC PL (k+1)))) (SE k o (tk k) (wv w b) os) (90+k) (SE (k+1) o (tk (k+1)) (wv w b) os) (sn (k+1))
def bD:=@PySem.W.Fast.te10295753902157049106
theorem sub_0 (w:World) (os:OsState) (b:Bool):Go (wv w b) (subDict (nC PL 0)) (ST T3 89 354 (wv w b) os) 89 (SE 0 (oo 0) 405 (wv w b) os) 223:=by
 intro K H gd lv
 rw[bD,bg]
 cases b<;>kernel_rfl
theorem W4:fx 0:=by
 intro w os b o K H gd lv
 rw[bD,bg]
 cases b<;>kernel_rfl
theorem W3:fx 1:=by
 intro w os b o K H gd lv
 rw[bD,bg]
 cases b<;>kernel_rfl
theorem W2:fx 2:=by
 intro w os b o K H gd lv
 rw[bD,bg]
 cases b<;>kernel_rfl
theorem W0:fx 3:=by
 intro w os b o K H gd lv
 rw[bD,bg]
 cases b<;>kernel_rfl
theorem WZ:fx 4:=by
 intro w os b o K H gd lv
 rw[bD,bg]
 cases b<;>kernel_rfl
theorem WY:fx 5:=by
 intro w os b o K H gd lv
 rw[bD,bg]
 cases b<;>kernel_rfl
theorem WX:fx 6:=by
 intro w os b o K H gd lv
 rw[bD,bg]
 cases b<;>kernel_rfl
theorem WW:fx 7:=by
 intro w os b o K H gd lv
 rw[bD,bg]
 cases b<;>kernel_rfl
theorem WV:fx 8:=by
 intro w os b o K H gd lv
 rw[bD,bg]
 cases b<;>kernel_rfl
theorem QN:fx 9:=by
 intro w os b o K H gd lv
 rw[bD,bg]
 cases b<;>kernel_rfl
theorem QM:fx 10:=by
 intro w os b o K H gd lv
 rw[bD,bg]
 cases b<;>kernel_rfl
theorem QL:fx 11:=by
 intro w os b o K H gd lv
 rw[bD,bg]
 cases b<;>kernel_rfl
theorem QK:fx 12:=by
 intro w os b o K H gd lv
 rw[bD,bg]
 cases b<;>kernel_rfl
theorem QJ:fx 13:=by
 intro w os b o K H gd lv
 rw[bD,bg]
 cases b<;>kernel_rfl
theorem QI:fx 14:=by
 intro w os b o K H gd lv
 rw[bD,bg]
 cases b<;>kernel_rfl
theorem QH:fx 15:=by
 intro w os b o K H gd lv
 rw[bD,bg]
 cases b<;>kernel_rfl
theorem QG:fx 16:=by
 intro w os b o K H gd lv
 rw[bD,bg]
 cases b<;>kernel_rfl
theorem QF:fx 17:=by
 intro w os b o K H gd lv
 rw[bD,bg]
 cases b<;>kernel_rfl
theorem QE:fx 18:=by
 intro w os b o K H gd lv
 rw[bD,bg]
 cases b<;>kernel_rfl
theorem QD:fx 19:=by
 intro w os b o K H gd lv
 rw[bD,bg]
 cases b<;>kernel_rfl
theorem QC:fx 20:=by
 intro w os b o K H gd lv
 rw[bD,bg]
 cases b<;>kernel_rfl
theorem QB:fx 21:=by
 intro w os b o K H gd lv
 rw[bD,bg]
 cases b<;>kernel_rfl
theorem QA:fx 22:=by
 intro w os b o K H gd lv
 rw[bD,bg]
 cases b<;>kernel_rfl
theorem Qz:fx 23:=by
 intro w os b o K H gd lv
 rw[bD,bg]
 cases b<;>kernel_rfl
theorem Qy:fx 24:=by
 intro w os b o K H gd lv
 rw[bD,bg]
 cases b<;>kernel_rfl
theorem Qx:fx 25:=by
 intro w os b o K H gd lv
 rw[bD,bg]
 cases b<;>kernel_rfl
theorem Qw:fx 26:=by
 intro w os b o K H gd lv
 rw[bD,bg]
 cases b<;>kernel_rfl
theorem Qv:fx 27:=by
 intro w os b o K H gd lv
 rw[bD,bg]
 cases b<;>kernel_rfl
theorem Qu:fx 28:=by
 intro w os b o K H gd lv
 rw[bD,bg]
 cases b<;>kernel_rfl
theorem Qt:fx 29:=by
 intro w os b o K H gd lv
 rw[bD,bg]
 cases b<;>kernel_rfl
theorem Qs:fx 30:=by
 intro w os b o K H gd lv
 rw[bD,bg]
 cases b<;>kernel_rfl
theorem Qr:fx 31:=by
 intro w os b o K H gd lv
 rw[bD,bg]
 cases b<;>kernel_rfl
theorem Qq:fx 32:=by
 intro w os b o K H gd lv
 rw[bD,bg]
 cases b<;>kernel_rfl
theorem Qp:fx 33:=by
 intro w os b o K H gd lv
 rw[bD,bg]
 cases b<;>kernel_rfl
theorem Qo:fx 34:=by
 intro w os b o K H gd lv
 rw[bD,bg]
 cases b<;>kernel_rfl
theorem Qn:fx 35:=by
 intro w os b o K H gd lv
 rw[bD,bg]
 cases b<;>kernel_rfl
theorem Qm:fx 36:=by
 intro w os b o K H gd lv
 rw[bD,bg]
 cases b<;>kernel_rfl
theorem Ql:fx 37:=by
 intro w os b o K H gd lv
 rw[bD,bg]
 cases b<;>kernel_rfl
section
theorem Mk:((rE.map (·.hash)).zip ((rE.map (·.hash)).tail)).all (λx=>decide (x.1<x.2))=true:=by kernel_rfl
def vB:=@List.pairwise_singleton
def kR:=@List.zip_cons_cons
def jd:=@List.pairwise_cons
def kI:=@Int.lt_trans
theorem zR:∀(l:List Int),(l.zip l.tail).all (λx=>decide (x.1<x.2))=true->l.Pairwise (·<·)
 |[],_=>List.Pairwise.nil
 |[a],_=>vB _ _
 |a::b::l,h=>by
  rw[List.tail_cons,kR,kJ,bp]at h
  have ih:=zR (b::l) h.2
  have hab:a<b:=of_decide_eq_true h.1
  refine jd.2 ⟨λc hc=>?_,ih⟩
  rcases aC.1 hc with e|e
  ·rw[e];exact hab
  ·exact kI hab ((jd.1 ih).1 c e)
theorem Ml:(rE.map (·.hash)).Nodup:=(zR _ Mk).imp λh=>Int.ne_of_lt h
noncomputable def V3 (e:DictEntry):Bool:=match e.key with| .int _ _=>true|_=>false
theorem MD:rE.all V3=true:=by kernel_rfl
theorem TQ (e:DictEntry) (h:e∈rE):Oz e:=by
 have :=aI.1 MD e h
 obtain⟨hh,k,v⟩:=e
 unfold V3 at this
 cases k<;>first|exact⟨_,_,_,_,rfl⟩|cases this
theorem yB:rE.length=650:=by kernel_rfl
def qW:=@List.mem_of_mem_drop
def kW:=@List.mem_of_mem_take
theorem MP {k:Nat} {e:DictEntry} (h:e∈nC rE k):e∈rE:=qW (kW h)
theorem tS (k:Nat):eo k++nC rE (k+1)=eo (k+1):=by
 unfold eo nC
 rw[show 17*(k+1+1)=17*(k+1)+17 by exact Z47,List.take_add]
theorem Z4 (k:Nat):((eo k).map (·.hash)).Nodup:=(Ml.sublist ((List.take_sublist _ _).map _))
variable{w:World}
def jb:=@Nat.lt_succ_self
def i_:=@List.length_take
def j4:=@List.size_toArray
theorem X5 (os:OsState) (b:Bool) {k:Nat} (h:k+1<39) (t:Nat):Go (wv w b) (mergeMapping 89 (.ref (90+k)) false) (SE (k+1) (oo k) t (wv w b) os) () (SE (k+1) (oo (k+1)) t (wv w b) os) (5+6*(nC rE (k+1)).length):=by
 have hs:=K_ (oo k) (wv w b).params
 have g1:(SE (k+1) (oo k) t (wv w b) os).tree.get 89=some (dO (eo k).toArray (eo k).length):=WR hs h
 have g2:(SE (k+1) (oo k) t (wv w b) os).tree.get (90+k)=some (dO (nC rE (k+1)).toArray (nC rE (k+1)).length):=K9 hs h
 have n1:89<(SE (k+1) (oo k) t (wv w b) os).n:=by show 89<90+(k+1);exact Z48
 have n2:90+k<(SE (k+1) (oo k) t (wv w b) os).n:=jb (90+k)
 have ne:(eo k).toArray.isEmpty=false:=by
  unfold eo
  cases q:(List.take (17*(k+1)) rE).toArray.isEmpty with
  |false=>rfl
  |true=>
   have :(List.take (17*(k+1)) rE).length=0:=by simpa using q
   rw[i_,yB]at this
   omega
 have m:=IS (w:=wv w b) (a:=90+k) (show(90+k:Nat)≠89 by exact Z46) (by show((90+k:Nat)==1)=false;simp;exact Z49) (Me g2 n2) (Lh g2 n2) g1 ne g2 n1 n2 (λe he=>TQ e (MP (List.mem_toArray.1 he)))
  (by show(((eo k)++(nC rE (k+1))).map (·.hash)).Nodup;rw[tS];exact Z4 _)
  (by
   have :=ak List.length (tS k)
   rw[bH]at this
   show(eo k).length+(nC rE (k+1)).length<=10000
   rw[this]
   unfold eo
   rw[i_,yB];exact Z50)
 have e1:(eo k).toArray++(nC rE (k+1)).toArray=(eo (k+1)).toArray:=by rw[List.append_toArray,tS]
 have e2:(eo k).length+(nC rE (k+1)).toArray.size=(eo (k+1)).length:=by
  rw[<-tS k,bH,j4]
 rw[e1,e2]at m
 have e3:(SE (k+1) (oo k) t (wv w b) os).tree.set 89 (λU=>dO (eo (k+1)).toArray (eo (k+1)).length)=tg (T3 (wv w b).params) cO (oo (k+1)) (k+1):=Qf (oo (k+1)) hs h
 rw[e3]at m
 rw[j4]at m
 rw[show 5+6*(nC rE (k+1)).length=1+(1+(1+(1+(1+(6*(nC rE (k+1)).length+0)))))by exact Z51]
 exact m
end
section
def xP (P:Nat->Prop):Nat->Prop
 |0=>True
 |n+1=>xP P n/\P n
theorem xP.z {P:Nat->Prop}:xP P 0:=trivial
theorem xP.s {P:Nat->Prop} {n:Nat} (h:xP P n) (k:P n):xP P (n+1):=⟨h,k⟩
def vG:=@Nat.lt_succ_iff_lt_or_eq
theorem xP.at {P:Nat->Prop} {n:Nat} (h:xP P n) {k:Nat} (hk:k<n):P k:=by
 induction n with
 |zero=>exact nomatch hk
 |succ n ih=>exact(vG.1 hk).elim (λq=>ih h.1 q) λq=>q▸h.2
theorem WU (w:World) (os:OsState) (b:Bool) (o:Obj) (k:Nat) (hk:k+1<39):Go (wv w b) (holding [.ref 89] (subDict (nC PL (k+1)))) (SE k o (tk k) (wv w b) os) (90+k) (SE (k+1) o (tk (k+1)) (wv w b) os) (sn (k+1)):=
 xP.at (P:=fx) (n:=38) (.s (.s (.s (.s (.s (.s (.s (.s (.s (.s (.s (.s (.s (.s (.s (.s (.s (.s (.s (.s (.s (.s (.s (.s (.s (.s (.s (.s (.s (.s (.s (.s (.s (.s (.s (.s (.s (.s .z W4) W3) W2) W0) WZ) WY) WX) WW) WV) QN) QM) QL) QK) QJ) QI) QH) QG) QF) QE) QD) QC) QB) QA) Qz) Qy) Qx) Qw) Qv) Qu) Qt) Qs) Qr) Qq) Qp) Qo) Qn) Qm) Ql) (Nat.lt_of_succ_lt_succ hk) w os b o
variable{w:World}
def aA:=@Nat.le_trans
def iG:=@Nat.le_of_eq
def gq:=@Nat.add_comm
def mv:=@Nat.mul_le_mul_left
theorem m17 {k:Nat} (h:k+1<39):17<=650-17*k:=Nat.le_sub_of_add_le (aA (iG (gq ..)) (aA (mv 17 (Nat.le_of_lt_succ h)) (by decide)))
def i9:=@List.length_drop
theorem DP (k:Nat):(nC rE k).length=min 17 (650-17*k):=by unfold nC;rw[i_,i9,yB]
theorem G9 (os:OsState) (b:Bool) {k:Nat} (h:k+1<39):Go (wv w b) (M9 89 (nC PL (k+1))) (SE k (oo k) (tk k) (wv w b) os) () (SE (k+1) (oo (k+1)) (tk (k+1)) (wv w b) os) (sn (k+1)+(5+6*(nC rE (k+1)).length)):=
 Go.bind (WU w os b (oo k) k h) (Go.onRaise (Go.holding (X5 os b h (tk (k+1)))))
def iC:=@Nat.lt_of_le_of_lt
def kU:=@Nat.add_le_add_left
def iz:=@Nat.succ_le_succ
def bN:=@Nat.zero_le
theorem LZ (os:OsState) (b:Bool):∀(m j:Nat),j+m<38->Go (wv w b) (A3 89 ((List.range' (j+1) m).map (nC PL))) (SE j (oo j) (tk j) (wv w b) os) () (SE (j+m) (oo (j+m)) (tk (j+m)) (wv w b) os) (330*m):=by
 intro xx
 induction xx with
 |zero=>
  intro j h
  exact Go.pure ()
 |succ m ih=>
  intro j h
  rw[List.range'_succ,bo,show 330*(m+1)=(sn (j+1)+(5+6*(nC rE (j+1)).length))+330*m by
   rw[DP,Nat.min_eq_left (m17 (Nat.succ_lt_succ (iC (kU (iz (bN m)) j) h)))];unfold sn;rw[ag (by exact Z53 h)];exact(Nat.mul_succ 330 m).trans (gq ..)]
  have ih:=ih (j+1) (by exact Z54 h)
  rw[show j+1+m=j+(m+1)by exact Z42]at ih
  exact Go.bind (G9 os b (by exact Z55 h)) ih
def aD:=@List.length_map
theorem G0:PL.length=650:=by
 unfold PL
 rw[aD]
 kernel_rfl
def mZ:=@List.take_append_drop
theorem sG {β:Type} (l:List β):∀m j,l.drop (17*j)=((List.range' j m).map (nC l)).flatten++l.drop (17*(j+m)):=by
 intro xx
 induction xx with
 |zero=>
  intro j
  simp
 |succ m ih=>
  intro j
  rw[List.range'_succ,bo,qM,eV,show j+(m+1)=j+1+m by exact Z56,<-ih (j+1)]
  unfold nC
  rw[show 17*(j+1)=17*j+17 by exact Z57,<-List.drop_drop,mZ]
def dR:=@List.take_of_length_le
theorem Xy:PL=nC PL 0++(((List.range' 1 37).map (nC PL)).flatten++nC PL 38):=by
 have e:nC PL 38=PL.drop (17*38):=by
  unfold nC
  exact dR (by rw[i9,G0];decide)
 rw[e]
 have t1:=sG PL 37 1
 rw[show 17*(1+37)=17*38 by rfl]at t1
 rw[<-t1]
 unfold nC
 rw[show 17*0=0 by rfl,List.drop_zero,show 17*1=17 by rfl,mZ]
theorem qI (k:Nat):(nC PL k).length=min 17 (650-17*k):=by unfold nC;rw[i_,i9,G0]
theorem aac (os:OsState) (b:Bool):Go (wv w b) (dictDisplay (PL.map gP)) (ST T3 89 354 (wv w b) os) (.ref 89) (SE 38 (oo 38) 2304 (wv w b) os) 12515:=by
 have e:dictDisplay (PL.map gP)=subDict (nC PL 0)>>=λd=>A3 d ((List.range' 1 37).map (nC PL))>>=λU=>M9 d (nC PL 38)>>=λU=>pure (.ref d):=by
  conv=>lhs;rw[Xy]
  exact aab _ _ _ (by rw[qI];decide) (λc hc=>by
   obtain⟨k,hk,rfl⟩:=aY.1 hc
   rw[List.mem_range'_1]at hk
   rw[qI];exact Nat.min_eq_left (m17 (Nat.succ_lt_succ hk.2))) (by rw[qI];decide) (by rw[qI];decide)
 rw[e,show 12515=223+(330*37+(sn (37+1)+(5+6*(nC rE (37+1)).length)+0))by rw[DP];rfl]
 exact Go.bind (sub_0 w os b) (Go.bind (LZ os b 37 0 (by exact Z58)) (Go.bind (G9 os b (by exact Z59)) (Go.pure _)))
end
section
def Fx {α:Type} (w:World) (x:Sem α) (s:SharedT) (p:Pos) (a:α) (s':SharedT) (p':Pos) (n:Nat):Prop:=
 ∀(K:α->Sem Fin) (H:Value->Sem Fin) (gd:Bool->Bool) (lv:bw->bw),segGoT treeTable PG w 11 (some (.ref 6)) 1 n s ⟨x.wrap K H gd lv,CE,p,BB⟩=some (s',⟨K a,CE,p',BB⟩)
section
variable{w:World} {α β:Type} {s s' xD:SharedT} {p p' p'':Pos} {n m:Nat}
theorem Go.yV {x:Sem α} {a:α} (h:Go w x s a s' n):Fx w x s pD a s' pD n:=h
theorem Fx.bind {x:Sem α} {f:α->Sem β} {a:α} {b:β} (h:Fx w x s p a s' p' n) (h':Fx w (f a) s' p' b xD p'' m):Fx w (x>>=f) s p b xD p'' (n+m):=λK H gd lv=>by
 rw[Sem.bind_eq_wrap',Sem.wrap_wrap]
 exact DB (h _ _ _ _) (h' K H gd lv)
theorem Mn {tb pr k6 ann b}:∀{n m:Nat} {s s':SharedT} {t t':Thread} {r:Option (Flow×SharedT×Code×Pos)},segGoT tb pr w k6 ann b n s t=some (s',t')->segRunT tb pr w k6 ann b m s' t'=r->segRunT tb pr w k6 ann b (n+m) s t=r:=by
 intro xx
 induction xx with
 |zero=>
  intro m s s' t t' r h k
  have e:some (s,t)=some (s',t'):=h
  cases e
  rw[cc];exact k
 |succ n ih=>
  intro m s s' t t' r h k
  rw[show n+1+m=n+m+1 by exact Z37]
  unfold segGoT at h
  unfold segRunT
  cases he:endAt b t with
  |some f=>rw[he]at h;cases h
  |none=>
   rw[he]at h
   cases hk:stepOk k6 ann t with
   |false=>rw[hk]at h;cases h
   |true=>
    rw[hk]at h
    cases hs:stepT (denote tb) pr w s t with
    |none=>rw[hs]at h;cases h
    |some r=>obtain⟨mJ,aaD⟩:=r;rw[hs]at h;exact ih h k
end
theorem Jo (tg:List PySem.Expr) (v:PySem.Expr) (p:Pos) (env:Env):exec (.Assign tg v p) env=(do standAt p;swapsWithSole tg v p.line env)>>=λc=>if c then(do
   evalThenUse v env λv=>assignAll v ((assignEach tg env).map (·.2))
   pure .next)else(eval v env>>=λx=>(do assignStores env x (<-swappedStores tg v env) ((assignEach tg env).map (·.2)))):=rfl
theorem E4 (ks:List (Option PySem.Expr)) (vs:List PySem.Expr) (p:Pos) (env:Env):eval (.Dict ks vs p) env=standAt p>>=λU=>dictDisplay ((evalEachOpt ks env).zip ((evalEach vs env).map λv=>do let x<-v;standAt p;pure x)):=rfl
def m8:=@Option.isSome_iff_exists
theorem Ad (env:Env) (f:PySem.Expr->Sem Value) (g:Sem Value->Sem Value) (hf:∀v,f v=g (eval v env)) (ek:Option PySem.Expr->Sem Value) (hk:∀k,ek (some k)=eval k env):∀(ks:List (Option PySem.Expr)) (vs:List PySem.Expr),ks.all (·.isSome)=true->
  (evalEachOpt ks env).zip ((evalEach vs env).map g)=((ks.zip vs).map λx=>(ek x.1,f x.2)).map gP
 |[],vs,_=>rfl
 |k::ks,[],_=>by
  show List.zip _ []=_
  rw[List.zip_nil_right];rfl
 |k::ks,v::vs,h=>by
  rw[kJ,bp]at h
  obtain⟨k,rfl⟩:=m8.1 h.1
  show(some (eval k env),g (eval v env))::List.zip (evalEachOpt ks env) ((evalEach vs env).map g)=gP (ek (some k),f v)::_
  rw[Ad env f g hf ek hk ks vs h.2,hk,hf]
  rfl
theorem Se:KS.all (·.isSome)=true:=by kernel_rfl
theorem TP:eval (.Dict KS VS pD) EV=standAt pD>>=λU=>dictDisplay (PL.map gP):=by
 rw[E4,Ad EV (λv=>do let y<-eval v EV;standAt pD;pure y) _ (λv=>rfl) evK (λk=>rfl) KS VS Se]
 rfl
def T4 (P:Params):BT:=(tg (T3 P) cO (oo 38) 38).set 3 λU=>abR P
theorem aaI (w:World) (os:OsState):Fx w (do standAt pA;swapsWithSole TG (.Dict KS VS pD) pA.line EV) (ST T3 89 354 w os) (ps 70 0 71 30) false (ST T3 89 354 w os) pA 1:=by
 intro K H gd lv
 rw[bD,bg]
 kernel_rfl
theorem aaH (w:World) (os:OsState):Fx w (standAt pD) (ST T3 89 354 w os) pA () (ST T3 89 354 w os) pD 1:=by
 intro K H gd lv
 rw[bD,bg]
 kernel_rfl
theorem aaG (w:World) (os:OsState):Fx w (do assignStores EV (.ref 89) (<-swappedStores TG (.Dict KS VS pD) EV) ((assignEach TG EV).map (·.2))) (SE 38 (oo 38) 2304 w os) pD .next (ST T4 128 2305 w os) (ps 72 0 72 13) 7:=by
 intro K H gd lv
 rw[bD,bg]
 kernel_rfl
end
theorem ab8:BD[11]! = .Assign TG (.Dict KS VS pD) pA:=by kernel_rfl
theorem aaO (w:World) (os:OsState) (b:Bool):segRunT treeTable PG (wv w b) 11 (some (.ref 6)) 1 12525 (ST T3 89 354 (wv w b) os) (pieceOf BD[11]! EV CE (ps 70 0 71 30) BB)=some (.next,ST T4 128 2305 (wv w b) os,CE,ps 72 0 72 13):=by
 rw[ab8]
 have g:Fx (wv w b) (exec (.Assign TG (.Dict KS VS pD) pA) EV) (ST T3 89 354 (wv w b) os) (ps 70 0 71 30) .next (ST T4 128 2305 (wv w b) os) (ps 72 0 72 13) (1+((1+12515)+7)):=by
  rw[Jo,TP]
  exact Fx.bind (aaI _ os) (Fx.bind (Fx.bind (aaH _ os) (Go.yV (aac os b))) (aaG _ os))
 exact Mn (m:=1) (g _ _ _ _) rfl
def T5 (P:Params):BT:=UN [Ti P,Th P,Tf P,Te P,Td P,BC P,ye P,Tc P,Tb P,Ta P,S' P,S_ P,BA P,yd P,S9 P,S8 P,S7 P,Bz P,yc P,S6 P,S5 P,S4 P,S3 P,S0 P,By P,yb P,SY P,SX P,SW P,Bx P,ya P,SV P,SU P,SS P,Bw P,x' P,SQ P,SO P,SN P,Bv P,x_ P,SM P,SJ P,SI P,Bu P,x9 P,SH P,SG P,SF P,Bt P,x7 P,SD P,SA P,Sz P,Bs P,x2 P,Sy P,Br P,Sw P,rY P,xZ P] 128 (((T4 P).set 3 λU=>Ku P).set 12 λU=>ZH P)
theorem aaN (w:World) (os:OsState):segRunT treeTable PG w 11 (some (.ref 6)) 1 400 (ST T4 128 2305 w os) (piecesOf (BD.drop 12) EV CE (ps 72 0 72 13) BB)=some (.next,ST T5 189 2377 w os,CE,ps 152 0 192 53):=by
 rw[m9,bg]
 kernel_rfl
def rb:=@List.drop_eq_getElem_cons
theorem aae (l:List Stmt) (h:l.length=24):l=l.take 9++([l[9]!]++([l[10]!]++(l[11]!::(l.drop 12++[])))):=by
 rw[eh,getElem!_pos l 9 (by rw[h];decide),getElem!_pos l 10 (by rw[h];decide),getElem!_pos l 11 (by rw[h];decide),<-rb (by rw[h];decide)]
 rw[show[l[10]]++l.drop 11=l.drop 10 from(rb (by rw[h];decide)).symm]
 rw[show[l[9]]++l.drop 10=l.drop 9 from(rb (by rw[h];decide)).symm]
 exact(mZ 9 l).symm
theorem Ud:BD.length=24:=by kernel_rfl
theorem Ue:behindTheImports PG=BD:=by kernel_rfl
def H1 (P:Params):Heap:=absHeap (T5 P) 189 {}
theorem fin_run (w:World) (os:OsState):topRun treeTable PG w 11 (some (.ref 6)) 2 (ST T5 189 2377 w os).abs ⟨doneF .next,CE,ps 152 0 192 53,BB⟩=some ⟨H1 w.params,#[],{},2377,os⟩:=by kernel_rfl
theorem K7 (w:World) (os:OsState):topRun treeTable PG w 11 (some (.ref 6)) (12+(1+(434+(999+(30+(12525+(400+2))))))) ⟨boot_heap w.params,#[],boot_drawn,boot_toks,os⟩ (topStub PG)=some ⟨H1 w.params,#[],{},2377,os⟩:=by
 refine go_top (Lv w os) ?_
 refine piece_block (Fg w os) ?_
 have r2:=aaQ w os (w.params.followText "set-order") (w.params.followText "special-get-raises")
 unfold JV at r2
 rw[World.withFollow_self,World.withFollow_self]at r2
 have r4:=aaO w os (w.params.followText "special-get-raises")
 unfold wv at r4
 rw[World.withFollow_self]at r4
 rw[Ue,aae BD Ud]
 have f5:=piece_nil (env:=EV) (fin_run w os)
 have g5:=piece_app (rest:=[]) (segRun_of (aaN w os)) f5
 have g4:=piece_cons (rest:=BD.drop 12++[]) (segRun_of r4) g5
 have g3:=piece_app (rest:=BD[11]!::(BD.drop 12++[])) (segRun_of (aaP w os)) g4
 have g2:=piece_app (rest:=[BD[10]!]++(BD[11]!::(BD.drop 12++[]))) (segRun_of r2) g3
 exact piece_app (segRun_of (aaR w os)) g2
def qv:Program:={PG with main:={PG.main with body:=[BD[23]!]}}
def lo:List Str:=(PG.main.scope.names.map (·.1)).filter (·!=("law":Str))
noncomputable abbrev XT:Shared->Bool:=λs=>recOk [] s
theorem X9 (w:World) (os:OsState):(staticsOk (importedModules PG.main.body) (boot_heap w.params) (H1 w.params)&&namesBound PG (H1 w.params)&&gensDone ⟨H1 w.params,#[],{},2377,os⟩&&laidKept (boot_heap w.params) (H1 w.params))=true:=by kernel_rfl
theorem Li (w:World):((boot_heap w.params).isNs mainGlobals&&(#[]:Array GenState).size==0,(boot_heap w.params).objs.size,(boot_heap w.params).nsMap mainGlobals "__annotations__")=(true,11,some (.ref 6)):=by kernel_rfl
theorem X8 (w:World) (os:OsState):openSeen qv lo (importedModules PG.main.body) XT true ⟨H1 w.params,#[],{},2377,os⟩=openGood qv lo:=by kernel_rfl
theorem Jm (s:Shared):fenceModules? PG s=some s:=by kernel_rfl
theorem B3:opening PG=plainProg PG.main.scope.names:=by kernel_rfl
theorem R6 {α β:Type} {a:Bool} {b c:α} {y:β} (h:a=true) (k:b=c):(a,b,y)=(true,c,y):=by rw[h,k]
noncomputable abbrev YF:Shared->(Addr->Option Obj):=λs=>s.heap.get?
abbrev YA:World->(Addr->Option Obj):=λw=>(H1 w.params).get?
def ay:=@Nat.le_of_ble_eq_true
theorem R8:LeftO PG qv lo XT YF YA 28704 true:=
 LeftO.of_pieces (H₁:=H1) (boot_open B3 (ay rfl|>λh=>qZ h) Jm) Li K7 (qZ (ay rfl)) λw=>funext λos=>R6 (X9 w os) (X8 w os)
open PySem.Calls PyProof.Rows
noncomputable abbrev PH:=Addr->Option Obj
def PH.le (Φ tE:PH):Prop:=∀a o,Φ a=some o->tE a=some o
def Sub (Φ:PH) (h:Heap):Prop:=∀a o,Φ a=some o->h.get? a=some o
theorem PH.le_trans {Φ tE Vt:PH} (x:Φ.le tE) (y:tE.le Vt):Φ.le Vt:=λa o h=>y a o (x a o h)
noncomputable def PH.add (Φ:PH) (a:Addr) (o:Obj):PH:=λb=>if b=a then some o else Φ b
theorem PH.jO {Φ:PH} {a b:Addr} {o:Obj} (h:b≠a):Φ.add a o b=Φ b:=af h
theorem PH.cB (Φ:PH) (a:Addr) (o:Obj):Φ.add a o a=some o:=ag rfl
theorem PH.Bp {Φ:PH} {a:Addr} (o:Obj) (h:Φ a=none):Φ.le (Φ.add a o):=λb o' e=>(PH.jO λq=>nomatch h.symm.trans ((ak Φ q).symm.trans e)).trans e
abbrev aG:=List ar
inductive V where
 |none
 |bool (b:Bool)
 |int (i:Int)
 |str (s:ar)
 |tup (l:List V)
 |lst (l:List V)
 |eK (ks:aG) (l:List V)
 |cmp (k:V)
 |ref (n:Nat)
 |AP (l:List (Int×Int))
 |lam
 deriving Inhabited
noncomputable def S (l:ar):Str:=⟨l.toArray⟩
theorem C' {a b:ar} (h:S a=S b):a=b:=ak (λx=>x.cps.toList) h
theorem KN (x:Str):S x.cps.toList=x:=rfl
def WM (o:Obj) (us:bw):Prop:=o.cls= .type "tuple"/\∃n,o.data= .seq us.toArray n
noncomputable def nR (us:bw) (n:Nat):Obj:={cls:=.type "list",dict:=.none,data:=.seq us.toArray n,slots:=#[]}
structure Gc where
 prog:Program
 w:World
 C:Addr
 os:OsState
 
 tb:Addr×Addr
 
 tl:Addr×Addr
 
 K:Frag
 
 gl:Str->mO
 
 bi:Str->mO
abbrev aq:=List V
set_option genInjectivity true in
inductive bJ where
 |list (l:aq)
 |dict (ks:aG) (l:aq)
 |tab
 |gb (b:Bool)
 deriving Inhabited
structure Pt where
 Φ:PH
 ρ:List Addr
 s:Shared
abbrev KJ:=Option bJ
abbrev aj:=List KJ
abbrev c8:=List (Option V)
structure St where
 H:aj
 loc:c8
structure FS where
 names:List (Str×NameKind)
 wrt:List Str
 code:Value
 lv:Nat
structure Rm (l:Nat) (A:Around):Prop where
 handled:A.handled=none
 depth:A.depth+10*(l+1)<=800
 units:A.units+100*(l+1)<=9000
def f7:=@Nat.le_add_right
theorem Rm.dep {l:Nat} {A:Around} (r:Rm l A):A.depth<recursionLimit:=iC (aA (f7 ..) r.depth) (by decide)
theorem Rm.uni {l:Nat} {A:Around} (r:Rm l A):A.units<cLine:=iC (aA (f7 ..) r.units) (by decide)
theorem Rm.le {l l':Nat} {A:Around} (h:l<=l') (r:Rm l' A):Rm l A:=
 ⟨r.handled,aA (kU (mv _ (iz h)) _) r.depth,aA (kU (mv _ (iz h)) _) r.units⟩
noncomputable def y5 (o:Obj):Array DictEntry:=match o.data with| .dict es _=>es|_=>#[]
noncomputable def nM (o:Obj):FuncData:=match o.data with| .func f=>f|_=>default
noncomputable def oA (T:BT) (a:Nat):Option Obj:=if a=58\/a=185 then none else(T.get a).bind alive
def kG (T:BT):Frag:=(List.range 189).filterMap λa=>(oA T a).map λo=>(a,o)
def KL (P:Params):Frag:=kG (T5 P)
def ab7 (P:Params):Array DictEntry:=y5 (((T5 P).get 0).getD default)
noncomputable def Vo:List Str:=["len","chr","ord","sum","max","all","sorted","isinstance","range","enumerate","zip","list","tuple","bool","dict"]
def G2 (w:World) (os:OsState):Gc:={prog:=PG,w:=w,C:=45,os:=os,tb:=(62,58),tl:=(187,185),K:=KL w.params,gl:=λx=>nsFind (y5 (Ku w.params)) x,bi:=λx=>if Vo.contains x then nsFind (ab7 w.params) x else none}
noncomputable abbrev RR:RowW:=PySem.Challenge.rw_xb0035_01.row.toRowW
def Vs (w:World) (os:OsState):Prop:=∀⦃b7:Shared⦄ ⦃a:Addr⦄ ⦃args:List WData⦄ ⦃vals:bw⦄ ⦃s₀:Shared⦄ ⦃mg:Str->mO⦄,b7.os=os->(∀a o,(H1 w.params).get? a=some o->b7.heap.get? a=some o)->
  b7.heap.Ns mainGlobals mg->mg "law"=some (.ref a)->b7.gens=#[]->RR.claim.pre args=true->WData.layableAll args=true->WellAll w.params b7.heap vals args->
  wpAny (model RR.prog w) callerA (call (.ref a) vals) (λv s'=>GoodWG RR.claim (classAt s₀.heap) (ExcName.means s₀.heap) args b7 (.ok (.ret v)) s')
    (λe s'=>GoodWG RR.claim (classAt s₀.heap) (ExcName.means s₀.heap) args b7 (.error e) s') b7
theorem KU:Nonempty (World×OsState):=⟨⟨⟨λU U=>0,{strHash:=λU=>0,shareClass:=λU=>0,mergeTok:=id,idOf:=λU=>0,idOfShared:=λU U=>0,followText:=λU=>true,idOfImm:=λU=>0}⟩,default⟩⟩
noncomputable def wo:World×OsState:=@Classical.epsilon _ KU λp=>¬Vs p.1 p.2
theorem MZ (h:Vs wo.1 wo.2) (w:World) (os:OsState):Vs w os:=
 vI λn=>@Classical.epsilon_spec _ (λp:World×OsState=>¬Vs p.1 p.2) ⟨(w,os),n⟩ h
def bG:=@List.lookup_cons
def bu:=@beq_eq_false_iff_ne
@[irreducible] noncomputable def G:Gc:=G2 wo.1 wo.2
theorem EO {β:Type} (f:Nat->Option β) (l:ar):∀(a:Nat) (o:β),(l.filterMap λa=>(f a).map λo=>(a,o)).lookup a=some o->f a=some o/\a∈l:=by
 induction l with
 |nil=>exact λa o h=>nomatch h
 |cons b l ih=>
  intro a o h
  rw[oG]at h
  cases q:f b with
  |none=>
   rw[q]at h
   exact(ih a o h).imp id (b9 _)
  |some x=>
   rw[q]at h
   replace h:((b,x)::(l.filterMap λa=>(f a).map λo=>(a,o))).lookup a=some o:=h
   rw[bG]at h
   by_cases e:a=b
   ·subst e
    rw[beq_self_eq_true]at h
    cases h
    exact⟨q,cV⟩
   ·rw[bu.2 e]at h
    exact(ih a o h).imp id (b9 _)
def aM:=@Option.bind_eq_some_iff
theorem Sf {T:BT} {a:Addr} {o:Obj} (h:(kG T).lookup a=some o):(a≠58/\a≠185)/\(absHeap T 189 {}).get? a=some o:=by
 obtain⟨h1,h2⟩:=EO _ _ _ _ h
 have h2:=eF.1 h2
 unfold oA at h1
 by_cases q:a=58\/a=185
 ·rw[ag q]at h1;cases h1
 ·rw[af q]at h1
  obtain⟨x,hx,hy⟩:=aM.1 h1
  exact⟨not_or.1 q,(abs_get h2 hx).trans hy⟩
section
def rM (Φ:PH) (a:Addr) (us:bw):Prop:=us.length<=16777216/\∃o,Φ a=some o/\WM o us
def ql (Φ:PH) (a:Addr) (us:bw):Prop:=us.length<=16777216/\∃n,Φ a=some (nR us n)
def aeI (o:Obj) (d5:List (Str×Value)):Prop:=∃es ep,o.ExactDict/\o.data= .dict es ep/\KeysOf (strKind G.prog G.w) es/\Pairs (strKind G.prog G.w) es.toList d5/\(d5.map (·.1)).Nodup
def uz (Φ:PH) (a:Addr) (d5:List (Str×Value)):Prop:=(d5.length<=1048576/\a≠sysModules)/\∃o,Φ a=some o/\aeI o d5
def jP (d5:List (Int×Value)) (l:List (Int×Int)):Prop:=∃ts:List Tok,ts.length=l.length/\d5=(l.zip ts).map λx=>(x.1.1,Value.int x.1.2 x.2)
theorem jP.snoc {d5:List (Int×Value)} {l:List (Int×Int)} (h:jP d5 l) (x:Int×Int) (t:Tok):jP (d5++[(x.1,.int x.2 t)]) (l++[x]):=by
 obtain⟨ts,e,rfl⟩:=h
 refine⟨ts++[t],by rw[bH,bH,e];rfl,?_⟩
 rw[List.zip_append e.symm,cF];rfl
def br:=@List.map_map
theorem jP.keys {d5:List (Int×Value)} {l:List (Int×Int)} (h:jP d5 l):d5.map (·.1)=l.map (·.1):=by
 obtain⟨ts,e,rfl⟩:=h
 rw[br]
 have :((l.zip ts).map (·.1))=l:=List.map_fst_zip (iG e.symm)
 conv=>rhs;rw[<-this]
 rw[br];rfl
def PR (Φ:PH) (a:Addr) (l:List (Int×Int)):Prop:=a≠sysModules/\∃o,Φ a=some o/\∃d5,o.IsDictOf (intKind G.prog G.w) d5/\jP d5 l
set_option backward.match.sparseCases false in
noncomputable def NM:List Stmt->Option (Arguments×Expr×Scope×Pos)
 | .Assign _ (.Lambda a b s p) _::_=>some (a,b,s,p)
 |_::r=>NM r
 |[]=>none
set_option backward.match.sparseCases false in
noncomputable def abz:Option Stmt->List Stmt
 |some (.FunctionDef _ _ b _ _ _ _ _ _ _)=>b
 |_=>[]
def dB:Arguments×Expr×Scope×Pos:=(NM (abz PySem.Challenge.pw_xb0035_01.main.body[23]?)).getD (default,.Constant .none default default,default,default)
noncomputable def ue (cells:List (Str×Addr)):List (Str×NameKind)->List (Str×Addr)->List (Str×Addr)
 |[],acc=>acc
 |(n,k)::r,acc=>if k==.free then(cells.lookup n).elim (ue cells r acc) λc=>ue cells r ((n,c)::acc)else ue cells r acc
theorem zJ {cells:List (Str×Addr)} {n:Str} {k:NameKind} {r:List (Str×NameKind)} {acc:List (Str×Addr)}:ue cells ((n,k)::r) acc=if k==.free then(cells.lookup n).elim (ue cells r acc) λc=>ue cells r ((n,c)::acc)else ue cells r acc:=rfl
def lF:Str:=S [119,111,114,116,104]
structure aeF where
 a:Addr
 o:Obj
 q:Str
 pm:Value
 cd:Addr
 ct:Value
 oc:Obj
 vs:dY
 t:Tok
structure aeG (Φ:PH) (cells:List (Str×Addr)) (u:Value) (w:aeF):Prop where
 u:u= .ref w.a
 o:Φ w.a=some w.o
 d:w.o.data= .func (kla_fn "<lambda>" w.q dB.1 dB.2.1 dB.2.2.1 (ue cells dB.2.2.1.names []) w.pm (.ref w.cd) w.ct)
 c:Φ w.cd=some w.oc
 f:w.oc.data= .fields w.vs
 q:w.vs[1]?=some (.str w.q w.t)
def nV (Φ:PH) (cells:List (Str×Addr)) (u:Value):Prop:=∃w,aeG Φ cells u w
theorem nV.mono {Φ tE:PH} {cells:List (Str×Addr)} {u:Value} (h:nV Φ cells u) (le:Φ.le tE):nV tE cells u:=h.imp λU k=>⟨k.u,le _ _ k.o,k.d,le _ _ k.c,k.f,k.q⟩
theorem nV.ref {Φ:PH} {cells:List (Str×Addr)} {u:Value} (h:nV Φ cells u):∃a,u= .ref a:=h.imp' _ λU k=>k.u
def WO (Φ:PH) (a:Addr) (ku:Value):Prop:=∃d es n,Φ a=some (instObj G.C d)/\Φ d=some (dictOf es n)/\getL "comp_select_list" es=some (some ku)/\getL "compare" es=some none
mutual
def VR (p:Pt) (u:Value):V->Prop
 | .none=>u= .none
 | .bool b=>u= .bool b
 | .int i=>∃t,u= .int i t
 | .str s=>s.length<=16777216/\∃t,u= .str (S s) t
 | .tup l=>∃a us,u= .ref a/\rM p.Φ a us/\bS p us l
 | .lst l=>∃a us,u= .ref a/\ql p.Φ a us/\bS p us l
 | .eK ks l=>∃a us,u= .ref a/\uz p.Φ a ((ks.map S).zip us)/\bS p us l/\ks.length=us.length
 | .cmp k=>∃a ku,u= .ref a/\WO p.Φ a ku/\VR p ku k
 | .ref n=>∃a,u= .ref a/\p.ρ[n]?=some a
 | .AP l=>∃a,u= .ref a/\PR p.Φ a l
 | .lam=>False
def bS (p:Pt) (us:bw):aq->Prop
 |[]=>us=[]
 |v::l=>∃u jF,us=u::jF/\VR p u v/\bS p jF l
end
section
variable{p q r:Pt} {β γ:Type}
theorem VR.int {i:Int} {t:Tok}:VR p (.int i t) (.int i):=⟨t,rfl⟩
theorem VR.str {x:ar} {t:Tok} (h:x.length<=16777216):VR p (.str (S x) t) (.str x):=⟨h,t,rfl⟩
theorem VR.tup {a:Addr} {us:bw} {l:aq} (h:rM p.Φ a us) (k:bS p us l):VR p (.ref a) (.tup l):=⟨a,us,rfl,h,k⟩
theorem VR.lst {a:Addr} {us:bw} {l:aq} (h:ql p.Φ a us) (k:bS p us l):VR p (.ref a) (.lst l):=⟨a,us,rfl,h,k⟩
theorem bS.nil:bS p [] []:=rfl
theorem bS.one {u:Value} {v:V} {us:bw} {l:aq} (h:VR p u v) (k:bS p us l):bS p (u::us) (v::l):=⟨u,us,rfl,h,k⟩
variable{P:Value->Prop} {Ps:bw->Prop}
@[elab_as_elim] theorem Kl (u:Value) (h:VR p u .none) (k:P .none):P u:=Eq.mpr (ak P h) k
@[elab_as_elim] theorem ur {b:Bool} (u:Value) (h:VR p u (.bool b)) (k:P (.bool b)):P u:=Eq.mpr (ak P h) k
@[elab_as_elim] theorem pO {i:Int} (u:Value) (h:VR p u (.int i)) (k:∀t,P (.int i t)):P u:=h.elim λt e=>Eq.mpr (ak P e) (k t)
@[elab_as_elim] theorem qi {x:ar} (u:Value) (h:VR p u (.str x)) (k:x.length<=16777216->∀t,P (.str (S x) t)):P u:=h.2.elim λt e=>Eq.mpr (ak P e) (k h.1 t)
@[elab_as_elim] theorem qh {l:aq} (u:Value) (h:VR p u (.tup l)) (k:∀a us,rM p.Φ a us->bS p us l->P (.ref a)):P u:=h.elim λa h=>h.elim λus h=>Eq.mpr (ak P h.1) (k a us h.2.1 h.2.2)
@[elab_as_elim] theorem xJ {l:aq} (u:Value) (h:VR p u (.lst l)) (k:∀a us,ql p.Φ a us->bS p us l->P (.ref a)):P u:=h.elim λa h=>h.elim λus h=>Eq.mpr (ak P h.1) (k a us h.2.1 h.2.2)
@[elab_as_elim] theorem xN {ks:aG} {l:aq} (u:Value) (h:VR p u (.eK ks l)) (k:∀a us,uz p.Φ a ((ks.map S).zip us)->bS p us l->ks.length=us.length->P (.ref a)):P u:=h.elim λa h=>h.elim λus h=>Eq.mpr (ak P h.1) (k a us h.2.1 h.2.2.1 h.2.2.2)
@[elab_as_elim] theorem KC {x:V} (u:Value) (h:VR p u (.cmp x)) (k:∀a ku,WO p.Φ a ku->VR p ku x->P (.ref a)):P u:=h.elim λa h=>h.elim λus h=>Eq.mpr (ak P h.1) (k a us h.2.1 h.2.2)
@[elab_as_elim] theorem uj {n:Nat} (u:Value) (h:VR p u (.ref n)) (k:∀a,p.ρ[n]?=some a->P (.ref a)):P u:=h.elim λa h=>Eq.mpr (ak P h.1) (k a h.2)
@[elab_as_elim] theorem tj (us:bw) (h:bS p us []) (k:Ps []):Ps us:=Eq.mpr (ak Ps h) k
@[elab_as_elim] theorem gX {v:V} {l:aq} (us:bw) (h:bS p us (v::l)) (k:∀u us,VR p u v->bS p us l->Ps (u::us)):Ps us:=h.elim λa h=>h.elim λus h=>Eq.mpr (ak Ps h.1) (k a us h.2.1 h.2.2)
@[elab_as_elim] theorem qt {v:V} (us:bw) (h:bS p us [v]) (k:∀u,VR p u v->Ps [u]):Ps us:=gX us h λu us h h'=>tj us h' (k u h)
theorem bS.length {l:aq}:∀{us:bw},bS p us l->us.length=l.length:=by
 induction l with
 |nil=>exact λ{us} h=>tj us h rfl
 |cons v l ih=>exact λ{us} h=>gX us h λU U U k=>ak Nat.succ (ih k)
def LR (cells:List (Str×Addr)) (x:Str) (p:Pt) (u:Value) (v:V):Prop:=VR p u v\/(x=lF/\v= .lam/\nV p.Φ cells u)
theorem LR.vr {cells:List (Str×Addr)} {x:Str} {u:Value} {v:V} (h:LR cells x p u v) (n:v≠.lam):VR p u v:=h.elim id λk=>(n k.2.1).elim
theorem LR.vn {cells:List (Str×Addr)} {x:Str} {u:Value} {v:V} (h:LR cells x p u v) (n:(x==lF)=false):VR p u v:=h.elim id λk=>by rw[k.1,beq_self_eq_true]at n;cases n
structure Le (p q:Pt):Prop where
 le:p.Φ.le q.Φ
 pr:p.ρ<+:q.ρ
theorem tM {Φ tE:PH} (h:Φ.le tE) {a:Addr} {O:Obj->Prop}:(∃o,Φ a=some o/\O o)->∃o,tE a=some o/\O o:=λ⟨o,x,y⟩=>⟨o,h _ _ x,y⟩
theorem ql.mono {Φ tE:PH} {a:Addr} {us:bw} (h:Φ.le tE) (x:ql Φ a us):ql tE a us:=⟨x.1,x.2.imp λU=>h _ _⟩
def ly:=@List.getElem?_append_left
def bO:=@List.getElem?_eq_some_iff
theorem qE {ρ ρ':List Addr} (h:ρ<+:ρ') {n:Nat} {a:Addr} (e:ρ[n]?=some a):ρ'[n]?=some a:=by
 obtain⟨t,rfl⟩:=h
 rw[ly (bO.1 e).1];exact e
theorem KW (x:Le p q) (v:V):∀u,VR p u v->VR q u v:=
 V.rec (motive_1:=λv=>∀u,VR p u v->VR q u v) (motive_2:=λl=>∀us,bS p us l->bS q us l)
  (λU h=>h) (λU U h=>h) (λU U h=>h) (λU U h=>h)
  (λl ih u h=>qh u h λa us t k=>.tup ⟨t.1,tM x.le t.2⟩ (ih us k))
  (λl ih u h=>xJ u h λa us t k=>.lst (t.mono x.le) (ih us k))
  (λks l ih u h=>xN u h λa us t k n=>⟨a,us,rfl,⟨t.1,tM x.le t.2⟩,ih us k,n⟩)
  (λv ih u h=>KC u h λa ku t k=>⟨a,ku,rfl,let⟨d,es,n,y,z,r⟩:=t;⟨d,es,n,x.le _ _ y,x.le _ _ z,r⟩,ih ku k⟩)
  (λn u h=>uj u h λa e=>⟨a,rfl,qE x.pr e⟩)
  (λl u h=>h.imp λa w=>⟨w.1,w.2.1,tM x.le w.2.2⟩) (λU h=>h)
  (λU h=>h) (λv l ih ih' us h=>gX us h λu us k k'=>.one (ih u k) (ih' us k')) v
theorem VR.mono {u:Value} {v:V} (h:VR p u v) (x:Le p q):VR q u v:=KW x v u h
theorem bS.mono {us:bw} {l:aq} (h:bS p us l) (x:Le p q):bS q us l:=by
 induction l generalizing us with
 |nil=>exact h
 |cons v l ih=>exact gX us h λu us k k'=>.one (k.mono x) (ih k')
theorem LR.mono {cells:List (Str×Addr)} {x:Str} {u:Value} {v:V} (h:LR cells x p u v) (le:Le p q):LR cells x q u v:=h.imp (·.mono le) λk=>⟨k.1,k.2.1,k.2.2.mono le.le⟩
def OR (p:Pt) (a:Addr):bJ->Prop
 | .list l=>∃us,ql p.s.heap.get? a us/\bS p us l
 | .dict ks l=>∃us,uz p.s.heap.get? a ((ks.map S).zip us)/\bS p us l/\ks.length=us.length
 | .tab=>a=G.tb.2/\∃ps,TriplesOk ps.toList/\p.s.heap.get? a=some {cls:=.none,data:=.fields ps}
 | .gb b=>a=G.tl.2/\∃ps,(TriplesOk ps.toList/\(b=true->codeAmong dB.2.2.2 ps.toList=none))/\p.s.heap.get? a=some {cls:=.none,data:=.fields ps}
theorem OR.mono {a:Addr} {o:bJ} (h:OR p a o) (x:Le p q) (hg:∀o,p.s.heap.get? a=some o->q.s.heap.get? a=some o):OR q a o:=by
 cases o with
 |list l=>exact h.elim λus h=>⟨us,⟨h.1.1,h.1.2.imp λU=>hg _⟩,h.2.mono x⟩
 |dict ks l=>exact h.elim λus h=>⟨us,⟨h.1.1,h.1.2.imp λU k=>⟨hg _ k.1,k.2⟩⟩,h.2.1.mono x,h.2.2⟩
 |tab=>exact⟨h.1,h.2.imp λU k=>⟨k.1,hg _ k.2⟩⟩
 |gb b=>exact⟨h.1,h.2.imp λU k=>⟨k.1,hg _ k.2⟩⟩
def g6 (p:Pt) (a:Addr):Prop:=∃o,p.s.heap.get? a=some o
theorem OR.there {a:Addr} {o:bJ} (h:OR p a o):g6 p a:=by
 cases o with
 |list l=>exact h.elim λus h=>h.1.2.imp' _ λU k=>k
 |dict ks l=>exact h.elim λus h=>h.1.2.imp λU k=>k.1
 |tab=>exact h.2.imp' _ λU k=>k.2
 |gb b=>exact h.2.imp' _ λU k=>k.2
theorem g6.not {a:Addr} {P:Prop} (h:g6 p a) (e:p.s.heap.get? a=none):P:=h.elim λU k=>nomatch e.symm.trans k
def lz:=@Option.eq_none_iff_forall_ne_some
def cE:=@Heap.lt_size
theorem get_none {h:Heap} {a:Addr} (e:h.objs.size<=a):h.get? a=none:=lz.2 λU q=>Nat.not_lt.2 e (cE q)
theorem none_of {Φ:PH} {h:Heap} (x:Sub Φ h) {a:Addr} (e:h.get? a=none):Φ a=none:=lz.2 λo q=>nomatch e.symm.trans (x a o q)
structure Inv (Kp:PH) (H:aj) (p:Pt):Prop where
 kp:Sub Kp p.s.heap
 eC:Sub p.Φ p.s.heap
 len:p.ρ.length=H.length
 nd:p.ρ.Nodup
 lt:∀a∈p.ρ,g6 p a
 live:∀(n:Nat) (o:bJ),H[n]?=some (some o)->∃a,p.ρ[n]?=some a/\Kp a=none/\p.Φ a=none/\OR p a o
 sm:∃o,Kp sysModules=some o
 tb:H[0]?=some (some .tab)
 so:AllBare p.s.gens/\p.s.os=G.os
 tr:p.ρ[1]?=some G.tl.2
structure lM (p q:Pt):Prop extends Le p q where
 old:∀a,g6 p a->a∉p.ρ->q.Φ a=p.Φ a
 nw:∀a∈q.ρ,a∈p.ρ\/p.s.heap.get? a=none
 ex:∀a,g6 p a->g6 q a
def bY:=@List.prefix_refl
theorem lM.refl (p:Pt):lM p p:=⟨⟨λU U h=>h,bY _⟩,λU U U=>rfl,λU h=>.inl h,λU h=>h⟩
theorem lM.out (x:lM p q) {a:Addr} (h:g6 p a) (n:a∉p.ρ):a∉q.ρ:=λm=>(x.nw a m).elim n h.not
theorem lM.trans (x:lM p q) (y:lM q r):lM p r:=
 ⟨⟨PH.le_trans x.le y.le,x.pr.trans y.pr⟩,λa h n=>(y.old a (x.ex a h) (x.out h n)).trans (x.old a h n),
  λa m=>(y.nw a m).elim (x.nw a) λe=>.inr (lz.2 λo k=>(x.ex a ⟨o,k⟩).not e),λa h=>y.ex a (x.ex a h)⟩
theorem lM.vr (x:lM p q) {u:Value} {v:V} (h:VR p u v):VR q u v:=h.mono x.toLe
theorem lM.y4 (x:lM p q) {us:bw} {l:aq} (h:bS p us l):bS q us l:=h.mono x.toLe
structure JY (Kp:PH):Prop where
 lim:∀h,Sub Kp h->h.NoLimit
 OT:∀h,Sub Kp h->∃mg,h.Ns mainGlobals mg/\(∀x u,G.gl x=some u->mg x=some u)/\(∀x u,G.bi x=some u->mg x=none)
 bns:∀h,Sub Kp h->∃mb,h.Ns builtinsNs mb/\∀x u,G.bi x=some u->mb x=some u
 K:∀a o,G.K.lookup a=some o->Kp a=some o
 cd:∀h,Sub Kp h->∀ps,TriplesOk ps.toList->h.get? G.tb.2=some {cls:=.none,data:=.fields ps}->h.IsCode G.tb.1 G.tb.2 ps/\h.TableAt G.tb.1 G.tb.2 ps
 cdl:∀h,Sub Kp h->CodeHd h G.tl.1 G.tl.2
theorem Sub.le {Φ tE:PH} {h:Heap} (x:Sub tE h) (le:Φ.le tE):Sub Φ h:=λa o e=>x a o (le a o e)
theorem JY.mono {Kp OX:PH} (g:JY Kp) (le:Kp.le OX):JY OX:=
 ⟨λh x=>g.lim h (x.le le),λh x=>g.OT h (x.le le),λh x=>g.bns h (x.le le),λa o e=>le a o (g.K a o e),λh x=>g.cd h (x.le le),λh x=>g.cdl h (x.le le)⟩
def Cv (env:Env) (a:Addr):Prop:=a=env.locals\/∃x,env.cells.lookup x=some a
structure Cx (fs:FS) where
 env:Env
 A:Around
 Kp:PH
 r:Rm fs.lv A
 g:JY Kp
 names:env.scope.names=fs.names
 kind:env.scope.kind= .function
 glob:env.globals=mainGlobals
 bi:env.builtins=builtinsNs
 code:env.code=fs.code
 co:env.scope.isCoroutine=false
 kl:Kp env.locals=none
 ne:∀x a,env.cells.lookup x=some a->a≠env.locals
 apart:∀x y a,env.cells.lookup x=some a->env.cells.lookup y=some a->x=y
 wr:∀x∈fs.wrt,∀a,env.cells.lookup x=some a->Kp a=none
 Eb:∀(k:Nat) x kd,fs.names[k]?=some (x,kd)->kd= .cell\/kd= .free->∃a,env.cells.lookup x=some a
variable{fs:FS} {c:Cx fs} {st st' st₁ bq:St} {loc:c8}
structure tu (c:Cx fs) (loc:c8) (p:Pt):Prop where
 fr:∀a,Cv c.env a->p.Φ a=none/\a∉p.ρ
 cells:∀x a,c.env.cells.lookup x=some a->∃v,p.s.heap.IsCell a v
 ns:∃m,p.s.heap.Ns c.env.locals m/\∀(k:Nat) x v,fs.names[k]?=some (x,.local)->loc[k]?=some (some v)->∃u,m x=some u/\LR c.env.cells x p u v
 cv:∀(k:Nat) x kd v,fs.names[k]?=some (x,kd)->(kd= .cell\/kd= .free)->loc[k]?=some (some v)->∃a u,c.env.cells.lookup x=some a/\p.s.heap.IsCell a (some u)/\VR p u v
structure SR (c:Cx fs) (st:St) (p:Pt):Prop where
 inv:Inv c.Kp st.H p
 env:tu c st.loc p
structure Nx (c:Cx fs) (p:Pt) (st:St) (q:Pt):Prop where
 a:lM p q
 h:SR c st q
theorem Nx.tr (x:Nx c p st₁ q) (y:Nx c q st r):Nx c p st r:=⟨x.a.trans y.a,y.h⟩
theorem Nx.up (x:lM p q) (y:Nx c q st r):Nx c p st r:=⟨x.trans y.a,y.h⟩
theorem Nx.vr (x:Nx c p st q) {u:Value} {v:V} (h:VR p u v):VR q u v:=x.a.vr h
theorem Nx.y4 (x:Nx c p st q) {us:bw} {l:aq} (h:bS p us l):bS q us l:=x.a.y4 h
theorem tu.there (R:tu c loc p) {a:Addr} (f:Cv c.env a):g6 p a:=by
 rcases f with rfl|⟨x,e⟩
 ·exact R.ns.elim λm h=>h.1.imp λo ⟨_,_,k,_⟩=>k
 ·exact(R.cells x a e).elim λv h=>h.imp λU k=>k.1
theorem mC {h h':Heap} {a:Addr} {v:mO} (x:h.IsCell a v) (k:∀o,h.get? a=some o->h'.get? a=some o):h'.IsCell a v:=x.imp λU y=>⟨k _ y.1,y.2⟩
theorem qz {h h':Heap} {a:Addr} {m:Str->mO} (x:h.Ns a m) (k:∀o,h.get? a=some o->h'.get? a=some o):h'.Ns a m:=let⟨o,es,ep,y,z⟩:=x;⟨o,es,ep,k _ y,z⟩
theorem tu.to (R:tu c loc p) (x:Le p q) (fr:∀a,Cv c.env a->q.Φ a=none/\a∉q.ρ) (hk:∀a o,Cv c.env a->p.s.heap.get? a=some o->q.s.heap.get? a=some o):tu c loc q where
 fr:=fr
 cells y a e:=(R.cells y a e).imp λU k=>mC k λo=>hk a o (.inr ⟨y,e⟩)
 ns:=R.ns.imp λm h=>⟨qz h.1 λo=>hk _ o (.inl rfl),λk y v a b=>(h.2 k y v a b).imp λu w=>⟨w.1,w.2.mono x⟩⟩
 cv k y kd v a b d:=(R.cv k y kd v a b d).imp λz h=>h.imp λu w=>⟨w.1,mC w.2.1 λo=>hk z o (.inr ⟨y,w.1⟩),w.2.2.mono x⟩
theorem tu.keep (R:tu c loc p) (x:lM p q) (hk:∀a o,Cv c.env a->p.s.heap.get? a=some o->q.s.heap.get? a=some o):tu c loc q:=
 R.to x.toLe (λa f=>⟨(x.old a (R.there f) (R.fr a f).2).trans (R.fr a f).1,x.out (R.there f) (R.fr a f).2⟩) hk
theorem Nx.of (h:SR c st p) (x:lM p q) {H:aj} (I:Inv c.Kp H q) (hk:∀a o,Cv c.env a->p.s.heap.get? a=some o->q.s.heap.get? a=some o):Nx c p ⟨H,st.loc⟩ q:=⟨x,I,h.env.keep x hk⟩
end
end
set_option genInjectivity true
section
noncomputable abbrev Pt.hp (p:Pt) (h:Heap) (t:Nat):Pt:=⟨p.Φ,p.ρ,{p.s with heap:=h,toks:=t}⟩
abbrev Pt.ad (p:Pt) (a:Addr) (o:Obj):Pt:=⟨p.Φ.add a o,p.ρ,p.s⟩
section
variable{fs:FS} {c:Cx fs} {p q r:Pt} {st st' st₁ bq:St} {loc:c8} {Kp:PH} {H:aj} {h':Heap} {t:Nat}
def bI:=@List.mem_of_getElem?
theorem Inv.to (I:Inv Kp H p) (le:p.Φ.le q.Φ) (J8:q.ρ=p.ρ) (hk:∀a o,(Kp a≠none\/p.Φ a≠none\/a∈p.ρ)->p.s.heap.get? a=some o->q.s.heap.get? a=some o)
  (hΦ:∀a o,q.Φ a=some o->p.Φ a=some o\/(q.s.heap.get? a=some o/\∀(n:Nat) (ob:bJ),H[n]?=some (some ob)->p.ρ[n]?≠some a)) (so:AllBare q.s.gens/\q.s.os=G.os):Inv Kp H q where
 kp a o e:=hk a o (.inl λk=>nomatch k.symm.trans e) (I.kp a o e)
 eC a o e:=(hΦ a o e).elim (λe=>hk a o (.inr (.inl λk=>nomatch k.symm.trans e)) (I.eC a o e)) λk=>k.1
 len:=J8▸I.len
 nd:=J8▸I.nd
 lt a m:=have m:=J8▸m;(I.lt a m).imp λo e=>hk a o (.inr (.inr m)) e
 live n o e:=(I.live n o e).imp λa k=>⟨J8▸k.1,k.2.1,lz.2 λob w=>(hΦ a ob w).elim (λw=>nomatch k.2.2.1.symm.trans w) λw=>w.2 n o e k.1,
  k.2.2.2.mono ⟨le,J8▸bY _⟩ λob w=>hk a ob (.inr (.inr (bI k.1))) w⟩
 sm:=I.sm
 tb:=I.tb
 so:=so
 tr:=J8▸I.tr
theorem SR.same (h:SR c st p):Nx c p st p:=⟨lM.refl _,h⟩
theorem lM.grow (gr:∀a o,p.s.heap.get? a=some o->h'.get? a=some o):lM p (p.hp h' t):=⟨⟨λU U h=>h,bY _⟩,λU U U=>rfl,λU h=>.inl h,λa h=>h.imp λU=>gr a _⟩
theorem Inv.grow (I:Inv Kp H p) (gr:∀a o,p.s.heap.get? a=some o->h'.get? a=some o):Inv Kp H (p.hp h' t):=I.to (λU U h=>h) rfl (λa o U=>gr a o) (λU U e=>.inl e) I.so
theorem SR.grow (h:SR c st p) (gr:∀a o,p.s.heap.get? a=some o->h'.get? a=some o):Nx c p st (p.hp h' t):=.of h (.grow gr) (h.inv.grow gr) λa o U=>gr a o
theorem SR.tok (h:SR c st p) (t:Nat):Nx c p st (p.hp p.s.heap t):=h.grow λU U e=>e
theorem lM.made (x:lM p q) {a:Addr} {o:Obj} (n:p.s.heap.get? a=none) (e:q.Φ a=none):lM p (q.ad a o):=
 ⟨⟨PH.le_trans x.le (PH.Bp o e),x.pr⟩,λb h k=>(PH.jO λ(w:b=a)=>h.not (w▸n)).trans (x.old b h k),x.nw,x.ex⟩
theorem Inv.not (I:Inv Kp H p) {a:Addr} (n:p.s.heap.get? a=none):a∉p.ρ:=λm=>(I.lt a m).not n
theorem Inv.made (I:Inv Kp H q) {a:Addr} {o:Obj} (e:q.Φ a=none) (k:q.s.heap.get? a=some o) (hl:∀(n:Nat) (ob:bJ),H[n]?=some (some ob)->q.ρ[n]?≠some a):Inv Kp H (q.ad a o):=
 I.to (PH.Bp o e) rfl (λU U U h=>h) (λb ob w=>by
  by_cases z:b=a
  ·subst z;exact .inr ⟨k.trans ((PH.cB ..).symm.trans w),hl⟩
  ·exact .inl ((PH.jO z).symm.trans w)) I.so
theorem SR.made (h:SR c st p) {a:Addr} {o:Obj} (gr:∀a o,p.s.heap.get? a=some o->h'.get? a=some o) (n:p.s.heap.get? a=none) (k:h'.get? a=some o):Nx c p st ((p.hp h' t).ad a o):=
 have e:=none_of h.inv.eC n
 .of h ((lM.grow gr).made n e) ((h.inv.grow gr).made e k λU U U w=>h.inv.not n (bI w)) λa o U=>gr a o
theorem Le.ad {a:Addr} {o:Obj} (e:p.Φ a=none):Le p (p.ad a o):=⟨PH.Bp o e,bY _⟩
end
def Ok {α:Type} (o:Option (α×St)) (P:α->St->Prop):Prop:=∀⦃v st'⦄,o=some (v,st')->P v st'
theorem Ok.bind {α β:Type} {x:Option (α×St)} {f:α×St->Option (β×St)} {P:β->St->Prop} (h:∀a st₁,x=some (a,st₁)->Ok (f (a,st₁)) P):Ok (x.bind f) P:=λU U e=>by
 cases x with
 |none=>cases e
 |some p=>exact h p.1 p.2 rfl e
theorem Ok.jn {α β:Type} {x:Option α} {f:α->Option (β×St)} {P:β->St->Prop} (h:∀a,x=some a->Ok (f a) P):Ok (x.bind f) P:=λU U e=>by
 cases x with
 |none=>cases e
 |some p=>exact h p rfl e
def aO:=@Option.map_eq_some_iff
theorem Ok.map {α β:Type} {x:Option α} {f:α->β×St} {P:β->St->Prop} (h:∀a,x=some a->P (f a).1 (f a).2):Ok (x.map f) P:=λv st e=>by
 refine x3 (aO.1 e) λa q e=>?_
 have :=h a q
 rw[e]at this
 exact this
theorem Ok.yes {α:Type} {v:α} {st:St} {P:α->St->Prop} (h:P v st):Ok (some (v,st)) P:=λU U e=>by cases e;exact h
theorem Ok.no {α:Type} {P:α->St->Prop}:Ok none P:=λU U e=>nomatch e
theorem Ok.ite {α:Type} {b:Prop} [Decidable b] {x y:Option (α×St)} {P:α->St->Prop} (h:b->Ok x P) (k:¬b->Ok y P):Ok (if b then x else y) P:=by
 by_cases q:b
 ·rw[ag q];exact h q
 ·rw[af q];exact k q
theorem Ok.iff {α:Type} {b:Prop} [Decidable b] {x:Option (α×St)} {P:α->St->Prop} (h:b->Ok x P):Ok (if b then x else none) P:=.ite h λU=>.no
theorem Ok.of {α:Type} {o:Option (α×St)} {P:α->St->Prop} (h:∀v st',o=some (v,st')->P v st'):Ok o P:=λU U e=>h _ _ e
noncomputable def mE:V->Option Int
 | .int i=>some i
 |_=>none
theorem Ov {i:Int}:mE (.int i)=some i:=rfl
noncomputable def nP:V->Option ar
 | .str s=>some s
 |_=>none
section
variable{β:Type} {p:Pt} {P:Value->Prop}
theorem Ur (a:V):(mE a).elim True λi=>a= .int i:=by cases a<;>first|exact rfl|exact True.intro
theorem jN {a:V} {i:Int} (h:mE a=some i):a= .int i:=(ak (λo=>Option.elim o True λi=>a=V.int i) h).mp (Ur a)
theorem Un (a:V):(nP a).elim True λi=>a= .str i:=by cases a<;>first|exact rfl|exact True.intro
theorem r8 {a:V} {i:ar} (h:nP a=some i):a= .str i:=(ak (λo=>Option.elim o True λi=>a=V.str i) h).mp (Un a)
@[elab_as_elim] theorem Fw {a:V} {f:Int->Option β} {v:β} (u:Value) (e:(mE a).bind f=some v) (h:VR p u a) (k:∀i t,f i=some v->P (.int i t)):P u:=by
 refine x3 (aM.1 e) λi q e=>?_
 rw[jN q]at h
 exact pO u h λt=>k i t e
@[elab_as_elim] theorem y7 {a:V} {f:ar->Option β} {v:β} (u:Value) (e:(nP a).bind f=some v) (h:VR p u a) (k:∀x,x.length<=16777216->∀t,f x=some v->P (.str (S x) t)):P u:=by
 refine x3 (aM.1 e) λi q e=>?_
 rw[r8 q]at h
 exact qi u h λz t=>k i z t e
variable{P2:Value->β->Prop}
@[elab_as_elim] theorem aIM {a:V} {f:Int->β} (u:Value) (v:β) (e:(mE a).map f=some v) (h:VR p u a) (k:∀i t,P2 (.int i t) (f i)):P2 u v:=by
 obtain⟨i,q,rfl⟩:=aO.1 e
 rw[jN q]at h
 exact pO u h λt=>k i t
@[elab_as_elim] theorem aSM {a:V} {f:ar->β} (u:Value) (v:β) (e:(nP a).map f=some v) (h:VR p u a) (k:∀x,x.length<=16777216->∀t,P2 (.str (S x) t) (f x)):P2 u v:=by
 obtain⟨i,q,rfl⟩:=aO.1 e
 rw[r8 q]at h
 exact qi u h λz t=>k i z t
variable{P1:β->Prop}
@[elab_as_elim] theorem sL {b:Prop} [Decidable b] {x:β} (v:β) (e:(if b then some x else none)=some v) (k:b->P1 x):P1 v:=by
 by_cases q:b
 ·rw[ag q]at e;cases e;exact k q
 ·rw[af q]at e;cases e
end
noncomputable abbrev D:=St->Option (V×St)
noncomputable abbrev DT:=St->Option (Bool×St)
inductive Fl where
 |next|brk|cont
 |ret (v:V)
noncomputable abbrev DS:=St->Option (Fl×St)
noncomputable abbrev DA:=V->St->Option St
def Ke (p:Pt) (f:Flow):Fl->Prop
 | .next=>f= .next
 | .brk=>f= .brk
 | .cont=>f= .cont
 | .ret v=>∃u,f= .ret u/\VR p u v
abbrev aJ:=Value->Shared->Prop
abbrev cW:=model G.prog G.w
def gw {fs:FS} {α:Type} (c:Cx fs) (p:Pt) (m:Sem α) (st':St) (R:Pt->α->Prop):Prop:=
 ∀⦃k:α->Shared->Prop⦄ ⦃E:aJ⦄,(∀a q,Nx c p st' q->R q a->k a q.s)->wpAny cW c.A m k E p.s
def bX (fs:FS) (e:Expr) (d:D):Prop:=∀⦃c:Cx fs⦄ ⦃p:Pt⦄ ⦃st:St⦄,SR c st p->Ok (d st) λv st'=>gw c p (eval e c.env) st' λq u=>VR q u v
def rO (fs:FS) (e:Expr) (d:DT):Prop:=∀⦃c:Cx fs⦄ ⦃p:Pt⦄ ⦃st:St⦄,SR c st p->Ok (d st) λv st'=>gw c p (isTrue e c.env (eval e c.env)) st' λU b=>b=v
def kh (fs:FS) (e:Stmt) (d:DS):Prop:=∀⦃c:Cx fs⦄ ⦃p:Pt⦄ ⦃st:St⦄,SR c st p->Ok (d st) λf st'=>gw c p (exec e c.env) st' λq fl=>Ke q fl f
def pR (fs:FS) (e:List Stmt) (d:DS):Prop:=∀⦃c:Cx fs⦄ ⦃p:Pt⦄ ⦃st:St⦄,SR c st p->Ok (d st) λf st'=>gw c p (execs e c.env) st' λq fl=>Ke q fl f
def jJ (fs:FS) (e:Expr) (d:DA):Prop:=∀⦃c:Cx fs⦄ ⦃p:Pt⦄ ⦃st st':St⦄ ⦃u:Value⦄ ⦃v:V⦄,SR c st p->VR p u v->d v st=some st'->gw c p (assign e c.env u) st' λU U=>True
def g7 (op:Operator) (f:V->V->Option V):Prop:=∀⦃fs:FS⦄ ⦃c:Cx fs⦄ ⦃p:Pt⦄ ⦃st:St⦄ ⦃a b:V⦄ (u u':Value) (v:V),SR c st p->VR p u a->VR p u' b->f a b=some v->gw c p (binaryOp op u u') st λq r=>VR q r v
def dG (op:CmpOp) (f:aj->V->V->Option Bool):Prop:=∀⦃fs:FS⦄ ⦃c:Cx fs⦄ ⦃p:Pt⦄ ⦃st:St⦄ ⦃a b:V⦄ (u u':Value) (v:Bool),SR c st p->VR p u a->VR p u' b->f st.H a b=some v->gw c p (compareOp op u u') st λq r=>r= .bool v
variable{fs:FS}
noncomputable def dC (v:V):D:=λst=>some (v,st)
theorem aa7 {i:Int} {k pos}:bX fs (.Constant (.int i) k pos) (dC (.int i)):=by
 intro c p st h
 exact .yes λU U hk=>wpAny_Constant_int (hk _ _ (h.tok _) .int)
theorem aaV {x:Str} {y:ar} {k pos} (hx:x=S y) (hz:y.length<=16777216):bX fs (.Constant (.str x) k pos) (dC (.str y)):=by
 subst hx
 intro c p st h
 exact .yes λU U hk=>wpAny_Constant_str (hk _ _ (h.tok _) (.str hz))
theorem Xu {b:Bool} {k pos}:bX fs (.Constant (.bool b) k pos) (dC (.bool b)):=by
 intro c p st h
 exact .yes λU U hk=>wpAny_Constant_bool (hk _ _ h.same rfl)
theorem Xd {k pos}:bX fs (.Constant .none k pos) (dC .none):=by
 intro c p st h
 exact .yes λU U hk=>wpAny_Constant_none (hk _ _ h.same rfl)
noncomputable def aa (k:Nat):D:=λst=>(st.loc[k]?).join.map λv=>(v,st)
def vD:=@Option.join_eq_some_iff
theorem tU {k:Nat} {st:St} {P:V->St->Prop} (h:∀v,st.loc[k]?=some (some v)->P v st):Ok (aa k st) P:=.map λv e=>h v (vD.1 e)
theorem Cx.kindOf (c:Cx fs) {x:Str}:c.env.kindOf x=fs.names.lookup x:=ak (List.lookup x) c.names
def isName (fs:FS) (k:Nat) (x:Str) (kd:NameKind):Prop:=(fs.names[k]?=some (x,kd)/\fs.names.lookup x=some kd)/\(x==("__debug__":Str))=false
def oI:=@wpAny_loadName_local
theorem aaU {k:Nat} {x:Str} {pos} (n:isName fs k x .local) (nl:(x==lF)=false):bX fs (.Name x pos) (aa k):=by
 intro c p st h
 exact tU λv e U U hk=>h.env.ns.elim λm hm=>(hm.2 k x v n.1.1 e).elim λu w=>wpAny_Name (oI c.kind (c.kindOf.trans n.1.2) hm.1 w.1 (hk _ _ h.same (w.2.vn nl))) n.2
theorem Xa {k:Nat} {x:Str} {pos} (n:isName fs k x .cell):bX fs (.Name x pos) (aa k):=by
 intro c p st h
 exact tU λv e U U hk=>(h.env.cv k x .cell v n.1.1 (.inl rfl) e).elim λa w=>w.elim λu w=>wpAny_Name (wpAny_loadName_cell c.kind (c.kindOf.trans n.1.2) w.1 w.2.1 (hk _ _ h.same w.2.2)) n.2
theorem W' {k:Nat} {x:Str} {pos} (n:isName fs k x .free) (hn:(x==("__classdict__":Str))=false):bX fs (.Name x pos) (aa k):=by
 intro c p st h
 exact tU λv e U U hk=>(h.env.cv k x .free v n.1.1 (.inr rfl) e).elim λa w=>w.elim λu w=>wpAny_Name (wpAny_loadName_free c.kind (c.kindOf.trans n.1.2) w.1 w.2.1 (hk _ _ h.same w.2.2) hn) n.2
noncomputable def aB (f:V->V->Option V) (a b:D):D:=λst=>(a st).bind λx=>(b x.2).bind λy=>(f x.1 y.1).map λv=>(v,y.2)
theorem O6 {op x y pos f dx dy} (ho:g7 op f) (hx:bX fs x dx) (hy:bX fs y dy):bX fs (.BinOp x op y pos) (aB f dx dy):=by
 intro c p st h
 exact .bind λa st₁ e1=>.bind λb bq e2=>.map λv e3 U U hk=>wpAny_BinOp (hx h e1 λu c_ n₁ hu=>hy n₁.h e2 λu' cG aw rC=>ho u u' v aw.h (aw.vr hu) rC e3 λr jk bE hr=>hk r jk (n₁.tr (aw.tr bE)) hr)
noncomputable def mM (f:aj->V->V->Option Bool) (a b:D):D:=λst=>(a st).bind λx=>(b x.2).bind λy=>(f y.2.H x.1 y.1).map λc=>(.bool c,y.2)
noncomputable def aS (f:aj->V->V->Option Bool) (a b:D):DT:=λst=>(a st).bind λx=>(b x.2).bind λy=>(f y.2.H x.1 y.1).map λc=>(c,y.2)
theorem abf {op x y pos f dx dy} (ho:dG op f) (hx:bX fs x dx) (hy:bX fs y dy) (hm:behindInMarks op y=false):bX fs (.Compare x [op] [y] pos) (mM f dx dy):=by
 intro c p st h
 exact .bind λa st₁ e1=>.bind λb bq e2=>.map λv e3 U U hk=>wpAny_Compare1 (hx h e1 λu c_ n₁ hu=>hy n₁.h e2 λu' cG aw rC=>ho u u' v aw.h (aw.vr hu) rC e3 λr jk bE hr=>hk r jk (n₁.tr (aw.tr bE)) hr) hm
def jC:=@wpAny_truthy_bool
theorem Xr {op x y pos f dx dy} (ho:dG op f) (hx:bX fs x dx) (hy:bX fs y dy) (hm:behindInMarks op y=false):rO fs (.Compare x [op] [y] pos) (aS f dx dy):=by
 intro c p st h
 exact .bind λa st₁ e1=>.bind λb bq e2=>.map λv e3 U U hk=>wpAny_isTrue_Compare1 (hx h e1 λu c_ n₁ hu=>hy n₁.h e2 λu' cG aw rC=>ho u u' v aw.h (aw.vr hu) rC e3 λr jk bE hr=>
  ur r (show VR jk r (.bool v)from hr) (jC (hk v jk (n₁.tr (aw.tr bE)) rfl))) hm
end
section
variable{fs:FS}
noncomputable abbrev DL:=St->Option (aq×St)
def pE (fs:FS) (es:List Expr) (d:DL):Prop:=
 ∀⦃c:Cx fs⦄ ⦃p:Pt⦄ ⦃st:St⦄ (pos:Pos),SR c st p->Ok (d st) λvs st'=>gw c p (spliced (backTo pos (starEach es c.env))) st' λq us=>bS q us vs
noncomputable def az:DL:=λst=>some ([],st)
noncomputable def ae (a:D) (b:DL):DL:=λst=>(a st).bind λx=>(b x.2).bind λy=>some (x.1::y.1,y.2)
def jy:=@spliced_nil
theorem CD:pE fs [] az:=by
 intro c p st pos h
 exact .yes λU U hk=>jy (hk _ _ h.same rfl)
def kq (e:Expr) (es:List Expr):Prop:=∀env,starEach (e::es) env=(false,eval e env)::starEach es env
def iI:=@spliced_cons
theorem uP {e:Expr} {es:List Expr} {d:D} {ds:DL} (hd:bX fs e d) (hs:pE fs es ds) (hn:kq e es):pE fs (e::es) (ae d ds):=by
 intro c p st pos h
 exact .bind λa st₁ e1=>.bind λb bq e2=>.yes λk E hk=>by
  rw[hn]
  exact iI (hd h e1 λu c_ n₁ hu=>hs pos n₁.h e2 λus cG aw gc=>hk _ _ (n₁.tr aw) (.one (aw.vr hu) gc))
noncomputable def bb (d:DL):D:=λst=>(d st).bind λx=>if x.1.length<=16777216 then some (.tup x.1,x.2)else none
noncomputable def eL (d:DL):D:=λst=>(d st).bind λx=>if x.1.length<=16777216 then some (.lst x.1,x.2)else none
def aZ:=@Heap.get?_push_of_some
theorem pushKeep (h:Heap) (o:Obj):∀a x,h.get? a=some x->(h.push o).get? a=some x:=λU U e=>aZ _ e
section
variable{c:Cx fs} {p q:Pt} {st st':St} {k:aJ}
def aF:=@Nat.le_refl
theorem dT (p:Pt):p.s.heap.get? p.s.heap.objs.size=none:=get_none (aF _)
theorem SR.non (h:SR c st p) {a:Addr} (n:p.s.heap.get? a=none):p.Φ a=none:=none_of h.inv.eC n
def bj:=@Heap.get?_push_size
theorem n8 {us:bw} {vs:aq} (h:SR c st p) (hv:bS p us vs) (hz:vs.length<=16777216) (hk:∀a q,Nx c p st q->VR q a (.tup vs)->k a q.s):
  us.length<=16777216/\k (.ref p.s.heap.objs.size) {p.s with heap:=p.s.heap.push {cls:=.type "tuple",data:=.seq us.toArray}}:=
 have z:=bS.length hv▸hz
 have n:=h.made (t:=p.s.toks) (pushKeep _ _) (dT p) (bj _ rfl)
 ⟨z,hk _ _ n (.tup ⟨z,_,PH.cB _ _ _,rfl,_,rfl⟩ (n.y4 hv))⟩
theorem IU {us:bw} {vs:aq} (h:SR c st p) (hv:bS p us vs) (hz:vs.length<=16777216) (hk:∀a q,Nx c p st q->VR q a (.lst vs)->k a q.s):
  us.length<=16777216/\k (.ref p.s.heap.objs.size) {p.s with heap:=p.s.heap.push {cls:=.type "list",data:=.seq us.toArray}}:=
 have z:=bS.length hv▸hz
 have n:=h.made (t:=p.s.toks) (pushKeep _ _) (dT p) (bj _ rfl)
 ⟨z,hk _ _ n (.lst ⟨z,0,PH.cB _ _ _⟩ (n.y4 hv))⟩
end
theorem Ki {es:List Expr} {k:Nat} {pos:Pos} {d:DL} (hd:pE fs es d):bX fs (.Tuple es k pos) (bb d):=by
 intro c p st h
 exact .bind λa st₁ e1=>.iff λhz=>.yes λU U hk=>wpAny_Tuple (hd pos h e1 λus c_ n₁ hu=>n8 n₁.h hu hz λU U aw=>hk _ _ (n₁.tr aw))
theorem aa3 {es:List Expr} {pos:Pos} {d:DL} (hd:pE fs es d):bX fs (.List es pos) (eL d):=by
 intro c p st h
 exact .bind λa st₁ e1=>.iff λhz=>.yes λU U hk=>wpAny_List_spliced (hd pos h e1 λus c_ n₁ hu=>IU n₁.h hu hz λU U aw=>hk _ _ (n₁.tr aw))
noncomputable def O1:aj->V->Option Bool
 |_,.bool b=>some b
 |_,.int i=>some (i !=0)
 |_,.str x=>some (!x.isEmpty)
 |_,_=>none
theorem ij (a:ar):(S a).length=a.length:=rfl
theorem Uz {n:Nat} (z:n<=16777216):(n:Int)<2^63:=Int.lt_of_le_of_lt (gN.2 z) (by decide)
theorem NL {n:Nat} (z:n<=16777216):¬(n:Int)>=2^63:=Int.not_le.2 (Uz z)
theorem FT {n:Nat} {i:Int} (h:i<n) (z:n<=16777216):i<2^63:=kI h (Uz z)
def lW:=@Int.le_of_lt
theorem FY {n:Nat} {i:Int} (h:-(n:Int)<=i) (z:n<=16777216):-(2^63)<=i:=Int.le_trans (Int.neg_le_neg (lW (Uz z))) h
def qX:=@Nat.add_le_add_right
def je:=@Nat.lt_of_lt_of_le
theorem u64 {u l n:Nat} (h:u+100*(l+1)<=9000) (k:n<800):u+n<9900:=iC (qX (aA (f7 ..) h) n) (je (Nat.add_lt_add_left k 9000) (by decide))
def aP:=@Option.some.inj
theorem Xz {c:Cx fs} {p:Pt} {st:St} {v:V} {b:Bool} (u:Value) (h:SR c st p) (hu:VR p u v) (e:O1 st.H v=some b):gw c p (truthy u) st λU r=>r=b:=by
 intro k E hk
 cases v with
 |bool b=>exact ur u hu (jC (hk _ _ h.same (aP e)))
 |int i=>exact pO u hu λt=>P.truthy_int (hk _ _ h.same (aP e))
 |str x=>exact qi u hu λz t=>P.truthy_str (NL z) (hk _ _ (h.tok _) (Eq.trans (by cases x<;>rfl) (aP e)))
 |_=>cases e
def nF (d:D):DT:=λst=>(d st).bind λx=>(O1 x.2.H x.1).map λb=>(b,x.2)
theorem rT {e:Expr} {d:D} (hd:bX fs e d) (he:∀env whole,isTrue e env whole=(do let v<-whole;standAt e.pos;holding [v] (truthy v))):rO fs e (nF d):=by
 intro c p st h
 exact .bind λa st₁ e1=>.map λb e2 U U hk=>isTrue_plain (hd h e1 λu c_ n₁ hu=>Xz u n₁.h hu e2 λU U aw=>hk _ _ (n₁.tr aw)) (he _ _)
noncomputable def CY (d:DT):DT:=λst=>(d st).bind λx=>some (!x.1,x.2)
theorem Xc {e:Expr} {pos:Pos} {d:DT} (hd:rO fs e d):rO fs (.UnaryOp .Not e pos) (CY d):=by
 intro c p st h
 exact .bind λa st₁ e1=>.yes λU U hk=>wpAny_isTrue_Not (hd h e1 λb c_ n₁ hb=>hk _ _ n₁ (ak _ hb))
def nY (fs:FS) (op:BoolOp) (es:List Expr) (d:DT):Prop:=∀⦃c:Cx fs⦄ ⦃p:Pt⦄ ⦃st:St⦄,SR c st p->Ok (d st) λv st'=>gw c p (allTrue op es c.env) st' λU b=>b=v
noncomputable def pJ:DT:=λst=>some (true,st)
noncomputable def tm:DT:=λst=>some (false,st)
noncomputable def jt (a b:DT):DT:=λst=>(a st).bind λx=>if x.1 then b x.2 else some (false,x.2)
noncomputable def iV (a b:DT):DT:=λst=>(a st).bind λx=>if x.1 then some (true,x.2)else b x.2
def av:=@wpAny_pure
theorem Xx:nY fs .And [] pJ:=by
 intro c p st h;exact .yes λU U hk=>av (hk _ _ h.same rfl)
theorem aa1:nY fs .Or [] tm:=by
 intro c p st h;exact .yes λU U hk=>av (hk _ _ h.same rfl)
theorem gw.Fm {c:Cx fs} {p:Pt} {st st':St} {α β:Type} {m:Sem Bool} {mk:Bool->Sem β} {b:Bool} {R:Pt->β->Prop} {k:β->Shared->Prop} {E:aJ} (h:gw c p m st λU r=>r=b)
  (g:∀q,SR c st q->gw c q (mk b) st' R) (hk:∀a q,Nx c p st' q->R q a->k a q.s):wpAny cW c.A m (λr s=>wpAny cW c.A (mk r) k E s) E p.s:=
 h λr q n e=>e▸g q n.h λa q' n'=>hk a q' (n.tr n')
theorem Xv {e:Expr} {es:List Expr} {d ds:DT} (hd:rO fs e d) (hs:nY fs .And es ds):nY fs .And (e::es) (jt d ds):=by
 intro c p st h
 exact .bind λa st₁ e1=>.ite (λz=>.of λb bq e2 U U hk=>wpAny_allTrue_And_cons (hd h e1 λr q n er=>by rw[er,ag z];exact hs n.h e2 λU U aw=>hk _ _ (n.tr aw)))
  λz=>.yes λU U hk=>wpAny_allTrue_And_cons (hd h e1 λr q n er=>by rw[er,af z];exact hk _ _ n rfl)
theorem aaZ {e:Expr} {es:List Expr} {d ds:DT} (hd:rO fs e d) (hs:nY fs .Or es ds):nY fs .Or (e::es) (iV d ds):=by
 intro c p st h
 exact .bind λa st₁ e1=>.ite (λz=>.yes λU U hk=>wpAny_allTrue_Or_cons (hd h e1 λr q n er=>by rw[er,ag z];exact hk _ _ n rfl))
  λz=>.of λb bq e2 U U hk=>wpAny_allTrue_Or_cons (hd h e1 λr q n er=>by rw[er,af z];exact hs n.h e2 λU U aw=>hk _ _ (n.tr aw))
theorem GY {op:BoolOp} {es:List Expr} {pos:Pos} {d:DT} (hd:nY fs op es d):rO fs (.BoolOp op es pos) d:=by
 intro c p st h
 exact .of λb bq e2 U U hk=>wpAny_isTrue_BoolOp (hd h e2 hk)
noncomputable def OW:V->Option Bool
 | .bool b=>some b
 |_=>none
theorem Uu (a:V):(OW a).elim True λi=>a= .bool i:=by cases a<;>first|exact rfl|exact True.intro
theorem pX {a:V} {b:Bool} (h:OW a=some b):a= .bool b:=(ak (λo=>Option.elim o True λi=>a=V.bool i) h).mp (Uu a)
def Oc (a b:D):D:=λst=>(a st).bind λx=>(OW x.1).bind λt=>if t then b x.2 else some (.bool false,x.2)
def me:=@Bool.eq_false_iff
theorem Xw {e e':Expr} {pos:Pos} {d d':D} (hd:bX fs e d) (JQ:bX fs e' d'):bX fs (.BoolOp .And [e,e'] pos) (Oc d d'):=by
 intro c p st h
 exact .bind λa st₁ e1=>.jn λb e2=>.ite
  (λz=>.of λv bq e3 U U hk=>wpAny_And2 (hd h e1 λu q n hu=>ur u (show VR q u (.bool b)from pX e2▸hu) (jC (by rw[ag z];exact JQ n.h e3 λU U aw=>hk _ _ (n.tr aw)))))
  λz=>.yes λU U hk=>wpAny_And2 (hd h e1 λu q n hu=>ur u (show VR q u (.bool b)from pX e2▸hu) (jC (by rw[af z];exact hk _ _ n (ak _ (me.2 z)))))
noncomputable def lO (t:DT) (a b:D):D:=λst=>(t st).bind λx=>if x.1 then a x.2 else b x.2
theorem Rc {t a b:Expr} {pos:Pos} {dt:DT} {da db:D} (ht:rO fs t dt) (ha:bX fs a da) (hb:bX fs b db):bX fs (.IfExp t a b pos) (lO dt da db):=by
 intro c p st h
 exact .bind λb st₁ e1=>.ite (λz=>.of λv bq e2 U U hk=>wpAny_IfExp (ht h e1 λr q n er=>by rw[er,ag z];exact ha n.h e2 λU U aw=>hk _ _ (n.tr aw)))
  λz=>.of λv bq e2 U U hk=>wpAny_IfExp (ht h e1 λr q n er=>by rw[er,af z];exact hb n.h e2 λU U aw=>hk _ _ (n.tr aw))
noncomputable def aT:DS:=λst=>some (.next,st)
noncomputable def ax (a b:DS):DS:=λst=>(a st).bind λx=>match x.1 with
 | .next=>b x.2
 |f=>some (f,x.2)
def ou:=@wpAny_execs_nil
theorem abd:pR fs [] aT:=by
 intro c p st h;exact .yes λU U hk=>ou (hk _ _ h.same rfl)
def oB:=@wpAny_execs_cons
theorem O5 {x:Stmt} {xs:List Stmt} {d ds:DS} (hd:kh fs x d) (hs:pR fs xs ds):pR fs (x::xs) (ax d ds):=by
 intro c p st h
 refine .bind λa st₁ e1=>?_
 cases a with
 |next=>exact .of λv bq e2 U U hk=>oB (hd h e1 λf q n e=>by cases e;exact hs n.h e2 λU U aw=>hk _ _ (n.tr aw))
 |brk=>exact .yes λU U hk=>oB (hd h e1 λf q n e=>by have :=hk _ _ n e;cases e;exact this)
 |cont=>exact .yes λU U hk=>oB (hd h e1 λf q n e=>by have :=hk _ _ n e;cases e;exact this)
 |ret v=>exact .yes λU U hk=>oB (hd h e1 λf q n e=>by have :=hk _ _ n e;obtain⟨u,rfl,_⟩:=e;exact this)
noncomputable def j9 (t:DT) (a b:DS):DS:=λst=>(t st).bind λx=>if x.1 then a x.2 else b x.2
theorem rIf {t:Expr} {a b:List Stmt} {pos:Pos} {dt:DT} {da db:DS} (ht:rO fs t dt) (ha:pR fs a da) (hb:pR fs b db):kh fs (.If t a b pos) (j9 dt da db):=by
 intro c p st h
 exact .bind λb st₁ e1=>.ite (λz=>.of λv bq e2 U U hk=>wpAny_If (ht h e1 λr q n er=>by rw[er,ag z];exact ha n.h e2 λU U aw=>hk _ _ (n.tr aw)))
  λz=>.of λv bq e2 U U hk=>wpAny_If (ht h e1 λr q n er=>by rw[er,af z];exact hb n.h e2 λU U aw=>hk _ _ (n.tr aw))
noncomputable def eB (d:D):DS:=λst=>(d st).bind λx=>some (.ret x.1,x.2)
theorem VF {e:Expr} {pos:Pos} {d:D} (hd:bX fs e d):kh fs (.Return (some e) pos) (eB d):=by
 intro c p st h
 exact .bind λa st₁ e1=>.yes λU U hk=>wpAny_Return_some (hd h e1 λu q n hu=>hk _ _ n ⟨u,rfl,hu⟩)
theorem Rg {pos:Pos}:kh fs (.Break pos) (λst=>some (.brk,st)):=by
 intro c p st h;exact .yes λU U hk=>wpAny_Break (hk _ _ h.same rfl)
noncomputable def tX (t:DT):DS:=λst=>(t st).bind λx=>if x.1 then some (.next,x.2)else none
theorem Lu {t:Expr} {m:Option Expr} {pos:Pos} {dt:DT} (ht:rO fs t dt):kh fs (.Assert t m pos) (tX dt):=by
 intro c p st h
 exact .bind λb st₁ e1=>.iff λz=>.yes λU U hk=>wpAny_Assert_holds (ht h e1 λr q n er=>⟨er.trans z,hk _ _ n rfl⟩)
end
set_option genSizeOf true
section
variable{fs:FS} {c:Cx fs} {p q:Pt} {st st':St}
def vA:=@List.getElem?_set_self'
def jh:=@List.getElem?_set_ne
theorem o7 {l:c8} {k j:Nat} {v v':V} {P:Prop} (h:(l.set k (some v))[j]?=some (some v')) (h1:j=k->v=v'->P) (h2:j≠k->l[j]?=some (some v')->P):P:=by
 by_cases e:j=k
 ·subst e
  rw[vA]at h
  cases q:l[j]? with
  |none=>rw[q]at h;cases h
  |some x=>rw[q]at h;exact h1 rfl (aP (aP h))
 ·rw[jh (Ne.symm e)]at h
  exact h2 e h
def aQ:=@List.getElem?_map
def qN:=@List.getElem?_inj
theorem pv {names:List (Str×NameKind)} (nd:(names.map (·.1)).Nodup) {j k:Nat} {x:Str} {a b:NameKind} (h1:names[j]?=some (x,a)) (h2:names[k]?=some (x,b)):j=k:=
 have e {j:Nat} {a:NameKind} (h:names[j]?=some (x,a)):(names.map (·.1))[j]?=some x:=by rw[aQ,h];rfl
 (qN (bO.1 (e h1)).1 nd).mp ((e h1).trans (e h2).symm)
theorem lM.V' {h':Heap} {t:Nat} {b:Addr} (sb:Heap.ExtBut b p.s.heap h') (hb:∃o,h'.get? b=some o):lM p (p.hp h' t):=
 ⟨⟨λU U h=>h,bY _⟩,λU U U=>rfl,λU h=>.inl h,λa h=>by
  by_cases q:a=b
  ·exact q▸hb
  ·exact h.imp λo e=>sb a o q e⟩
theorem lM.but {h':Heap} {t:Nat} {b:Addr} (sb:Heap.SameBut b p.s.heap h') (hb:∃o,h'.get? b=some o):lM p (p.hp h' t):=.V' (λa U q e=>(sb.2 a q).trans e) hb
theorem Inv.frame {Kp:PH} {H:aj} {h':Heap} {t:Nat} {b:Addr} (I:Inv Kp H p) (sb:Heap.SameBut b p.s.heap h') (k:Kp b=none) (f:p.Φ b=none/\b∉p.ρ):Inv Kp H (p.hp h' t):=
 I.to (λU U h=>h) rfl (λa o z e=>(sb.2 a λw=>by subst w;exact z.elim (· k) λz=>z.elim (· f.1) f.2).trans e) (λU U e=>.inl e) I.so
theorem zY {k:Nat} {x:Str} {u:Value} {v:V} (h:SR c st p) (hv:LR c.env.cells x p u v) (n:isName fs k x .local) (nd:(fs.names.map (·.1)).Nodup):gw c p (storeName c.env x u) {st with loc:=st.loc.set k (some v)} λU (_:Unit)=>True:=by
 intro K E hk
 refine x3 (h.env.ns) λm hm Ka=>?_
 have hp:(c.env.scope.kind==.class||(c.env.scope.kind==.module&&c.env.locals !=c.env.globals))=false:=by rw[c.kind];rfl
 refine wpAny_storeName_local (c.kindOf.trans n.1.2) hm (λh' hn hs=>?_) hp
 have x1:lM p (p.hp h' (p.s.toks+1)):=.but hs (let⟨o,_,_,e,_⟩:=hn;⟨o,e⟩)
 have hc:∀{y a v},c.env.cells.lookup y=some a->p.s.heap.IsCell a v->h'.IsCell a v:=λe w=>mC w λo=>((hs.2 _ (c.ne _ _ e)).trans ·)
 have fl:=h.env.fr _ (.inl rfl)
 exact hk () _ ⟨x1,h.inv.frame hs c.kl fl,h.env.fr,λy a e=>(h.env.cells y a e).imp λU=>hc e,⟨_,hn,λj y w h1 h2=>o7 h2
   (λej ev=>by subst ej;rw[n.1.1]at h1;cases h1;exact⟨u,by simp,ev▸hv.mono x1.toLe⟩) λne h2=>(Ka j y w h1 h2).imp λu' z=>⟨by rw[af λe=>ne (pv nd h1 (e▸n.1.1))];exact z.1,z.2.mono x1.toLe⟩⟩,
  λj y kd w h1 h2 h3=>o7 h3 (λej U=>by subst ej;rw[n.1.1]at h1;cases h1;rcases h2 with h2|h2<;>cases h2) λU h3=>(h.env.cv j y kd w h1 h2 h3).imp λa z=>z.imp λu' z=>⟨z.1,hc z.1 z.2.1,x1.vr z.2.2⟩⟩ trivial
theorem mW {k:Nat} {x:Str} {u:Value} {v:V} (h:SR c st p) (hv:VR p u v) (n:isName fs k x .local) (nd:(fs.names.map (·.1)).Nodup):gw c p (storeName c.env x u) {st with loc:=st.loc.set k (some v)} λU (_:Unit)=>True:=zY h (.inl hv) n nd
theorem Lb {k:Nat} {x:Str} {u:Value} {v:V} (h:SR c st p) (hv:VR p u v) (n:isName fs k x .cell) (nd:(fs.names.map (·.1)).Nodup) (hw:x∈fs.wrt):gw c p (storeName c.env x u) {st with loc:=st.loc.set k (some v)} λU (_:Unit)=>True:=by
 intro K E hk
 obtain⟨b,hb⟩:=c.Eb k x .cell n.1.1 (.inl rfl)
 obtain⟨aeL,Yu⟩:=h.env.cells x b hb
 refine wpAny_storeName_cell c.kind (c.kindOf.trans n.1.2) hb Yu λh' hn hs=>?_
 have x1:lM p (p.hp h' p.s.toks):=.but hs (hn.imp λU e=>e.1)
 refine x3 (h.env.ns) λm hm Ka=>?_
 have hc:∀{a v},a≠b->p.s.heap.IsCell a v->h'.IsCell a v:=λe w=>mC w λo=>((hs.2 _ e).trans ·)
 exact hk () _ ⟨x1,h.inv.frame hs (c.wr x hw b hb) (h.env.fr b (.inr ⟨x,hb⟩)),h.env.fr,λy a e=>by
   by_cases q:a=b
   ·subst q;exact⟨_,hn⟩
   ·exact(h.env.cells y a e).imp λU=>hc q,⟨m,qz hm λo=>((hs.2 _ (c.ne x b hb).symm).trans ·),λj y w h1 h2=>o7 h2 (λej U=>by subst ej;rw[n.1.1]at h1;cases h1) λU h2=>(Ka j y w h1 h2).imp λu' z=>⟨z.1,z.2.mono x1.toLe⟩⟩,
  λj y kd w h1 h2 h3=>o7 h3 (λej ev=>by subst ej;rw[n.1.1]at h1;cases h1;exact⟨b,u,hb,hn,ev▸x1.vr hv⟩) λne h3=>(h.env.cv j y kd w h1 h2 h3).imp λa z=>z.imp λu' z=>
   ⟨z.1,hc (λq=>ne (pv nd h1 ((c.apart _ _ _ hb (q▸z.1))▸n.1.1))) z.2.1,x1.vr z.2.2⟩⟩ trivial
noncomputable def ah (k:Nat):DA:=λv st=>some {st with loc:=st.loc.set k (some v)}
theorem acg {k:Nat} {x:Str} {pos:Pos} (n:isName fs k x .local) (nd:(fs.names.map (·.1)).Nodup):jJ fs (.Name x pos) (ah k):=by
 intro c p st st' u v h hu q
 cases q
 exact λU U hk=>wpAny_assign_Name (mW h hu n nd λU=>hk ())
theorem aaz {k:Nat} {x:Str} {pos:Pos} (n:isName fs k x .cell) (nd:(fs.names.map (·.1)).Nodup) (hw:x∈fs.wrt):jJ fs (.Name x pos) (ah k):=by
 intro c p st st' u v h hu q
 cases q
 exact λU U hk=>wpAny_assign_Name (Lb h hu n nd hw λU=>hk ())
noncomputable abbrev Cw:=aq->St->Option St
structure w9 (fs:FS) (es:List Expr) (d:Cw):Prop where
 len:∀vs st st',d vs st=some st'->vs.length=es.length
 sh:∀env,(assignEach es env).length=es.length/\(assignEach es env).findIdx? (·.1)=none
 go:∀⦃c:Cx fs⦄ ⦃p:Pt⦄ ⦃st st':St⦄ ⦃us:bw⦄ ⦃vs:aq⦄,SR c st p->bS p us vs->d vs st=some st'->gw c p (assignInOrder ((assignEach es c.env).map (·.2)) us) st' λU U=>True
noncomputable def bf:Cw:=λvs st=>match vs with
 |[]=>some st
 |_=>none
noncomputable def ao (d:DA) (ds:Cw):Cw:=λvs st=>match vs with
 |v::vs=>(d v st).bind (ds vs)
 |[]=>none
theorem Wb:w9 fs [] bf where
 len vs st st' q:=by cases vs<;>cases q;rfl
 sh env:=⟨rfl,rfl⟩
 go c p st st' us vs h hu q:=by
  cases vs with
  |nil=>cases q;exact tj us hu λU U hk=>av (hk _ _ h.same trivial)
  |cons=>cases q
def mz:=@wpAny_assignInOrder_more
theorem Oy {e:Expr} {es:List Expr} {d:DA} {ds:Cw} (hd:jJ fs e d) (hs:w9 fs es ds) (hn:∀env,assignEach (e::es) env=(false,assign e env)::assignEach es env):w9 fs (e::es) (ao d ds) where
 len vs st st' q:=by
  cases vs with
  |nil=>cases q
  |cons v vs=>exact(aM.1 q).elim λst₁ q=>ak Nat.succ (hs.len _ _ _ q.2)
 sh env:=by rw[hn];exact⟨ak Nat.succ (hs.sh env).1,by rw[List.findIdx?_cons,(hs.sh env).2];rfl⟩
 go c p st st' us vs h hu q:=by
  cases vs with
  |nil=>cases q
  |cons v vs=>
   exact(aM.1 q).elim λst₁ q=>gX us hu λu us hv qg U U hk=>by
    rw[hn]
    exact mz (hd h hv q.1 λU c_ n₁ U=>hs.go n₁.h (n₁.y4 qg) q.2 λU U aw=>hk _ _ (n₁.tr aw))
noncomputable def Fv:V->Option aq
 | .tup l=>some l
 |_=>none
theorem Um (a:V):(Fv a).elim True λi=>a= .tup i:=by cases a<;>first|exact rfl|exact True.intro
theorem u5 {a:V} {l:aq} (h:Fv a=some l):a= .tup l:=(ak (λo=>Option.elim o True λi=>a=V.tup i) h).mp (Um a)
def bx (ds:Cw):DA:=λv st=>(Fv v).bind λvs=>ds vs st
theorem rM.isTup {a:Addr} {us:bw} (h:rM p.Φ a us) (k:Sub p.Φ p.s.heap):p.s.heap.IsTuple a us.toArray:=h.2.imp λo e=>⟨k _ _ e.1,e.2⟩
def df:=@Nat.ne_of_lt
theorem ach {es:List Expr} {k:Nat} {pos:Pos} {ds:Cw} (hs:w9 fs es ds):jJ fs (.Tuple es k pos) (bx ds):=by
 intro c p st st' u v h hu q
 exact(aM.1 q).elim λvs q=>qh u (show VR p u (.tup vs)from u5 q.1▸hu) λa us ht qg U U hk=>wpAny_assign_Tuple c.r.handled (ht.isTup h.inv.eC)
  (by rw[(hs.sh _).1,<-hs.len _ _ _ q.2,<-bS.length qg];rfl) (hs.sh _).2 λh' hx=>
   have n:Nx c p st (p.hp h' p.s.toks):=h.grow λb o e=>hx b o (df (cE e)) e
   hs.go n.h (n.y4 qg) q.2 λU U aw=>hk _ _ (n.tr aw)
noncomputable def fK (fs:FS):Env:={(default:Env)with scope:=⟨.function,fs.names,false,false,[]⟩}
theorem Cx.fK (c:Cx fs):c.env.kindOf=(Internal.fK fs).kindOf/\c.env.blockKind=(Internal.fK fs).blockKind:=⟨funext λU=>c.kindOf,by unfold Env.blockKind;rw[c.kind];rfl⟩
theorem Cx.tJ (c:Cx fs) (ts:List Expr) (v:Expr):swappedStores ts v c.env=swappedStores ts v (Internal.fK fs):=by unfold swappedStores;rw[c.fK.1,c.fK.2]
theorem Cx.zq (c:Cx fs) (v:Expr) (t:Option Expr) (n:Nat):swapsWith v t n c.env=swapsWith v t n (Internal.fK fs):=by
 unfold swapsWith
 rw[c.fK.1,c.fK.2,show c.env.scope.kind=(Internal.fK fs).scope.kind from c.kind]
theorem Cx.ph (c:Cx fs) (ts:List Expr) (v:Expr) (n:Nat):swapsWithSole ts v n c.env=swapsWithSole ts v n (Internal.fK fs):=by
 match ts with
 |[]=>rfl
 |[t]=>exact c.zq v (some t) n
 |_::_::_=>rfl
noncomputable def ba (da:DA) (d:D):DS:=λst=>(d st).bind λx=>(da x.1 x.2).map λst'=>(.next,st')
theorem mX {t value:Expr} {pos:Pos} {d:D} {da:DA} (hd:bX fs value d) (ha:jJ fs t da) (hs:swapsWithSole [t] value pos.line (fK fs)=pure false) (hw:swappedStores [t] value (fK fs)=pure none)
  (hn:∀env,(assignEach [t] env).map (·.2)=[assign t env]):kh fs (.Assign [t] value pos) (ba da d):=by
 intro c p st h
 exact .bind λv st₁ e1=>.map λbq e2 U U hk=>wpAny_Assign_stores (hd h e1 λu q n hu=>by rw[hn];exact ha n.h hu e2 λU U aw U=>hk _ _ (n.tr aw) rfl) ((c.ph _ _ _).trans hs) ((c.tJ _ _).trans hw)
noncomputable def gD (k₁ k₂:Nat) (d:D):DS:=λst=>(d st).bind λx=>match x.1 with
 | .tup [a,b]=>some (.next,{x.2 with loc:=(x.2.loc.set k₂ (some b)).set k₁ (some a)})
 |_=>none
theorem sw2 {p:V->Option (Fl×St)} {P:Prop} {v:V} {r:Fl×St} {f:V->V->Fl×St} (e:(match v with| .tup [a,b]=>some (f a b)|_=>none)=some r) (k:∀a b,v= .tup [a,b]->f a b=r->P):P:=by
 cases v with
 |tup l=>cases l with
  |nil=>cases e
  |cons a l=>cases l with
   |nil=>cases e
   |cons b l=>cases l with
    |nil=>exact k _ _ rfl (aP e)
    |cons=>cases e
 |_=>cases e
def ai:=@wpAny_bind
def fY:=@wpAny_standAt
def jw:=@wpAny_rule
def oh:=@wpAny_bindName
theorem Q3 {k₁ k₂:Nat} {x y:Str} {ts:List Expr} {k:Nat} {tp pos:Pos} {value:Expr} {d:D} (hd:bX fs value d) (n1:isName fs k₁ x .local) (n2:isName fs k₂ y .local) (nd:(fs.names.map (·.1)).Nodup)
  (hs:swapsWithSole [.Tuple ts k tp] value pos.line (fK fs)=pure false) (hw:swappedStores [.Tuple ts k tp] value (fK fs)=pure (some [x,y])):kh fs (.Assign [.Tuple ts k tp] value pos) (gD k₁ k₂ d):=by
 intro c p st h
 refine .bind λv st₁ e1=>?_
 refine .of λf bq e2 K E hk=>sw2 (p:=λU=>none) (f:=λa b=>(Fl.next,{st₁ with loc:=(st₁.loc.set k₂ (some b)).set k₁ (some a)})) e2 λa b ev er=>?_
 cases er
 show wpAny _ c.A (do
   standAt pos
   if <-swapsWithSole [.Tuple ts k tp] value pos.line c.env then do
    evalThenUse value c.env λv=>assignAll v ((assignEach [.Tuple ts k tp] c.env).map (·.2))
    pure .next
   else do
    let v<-eval value c.env
    assignStores c.env v (<-swappedStores [.Tuple ts k tp] value c.env) ((assignEach [.Tuple ts k tp] c.env).map (·.2))) _ _ _
 refine ai (fY ?_)
 rw[(c.ph _ _ _).trans hs,(c.tJ _ _).trans hw]
 refine ai (av (ai (hd h e1 λu q n hu=>ai (av ?_))))
 refine qh u (show VR q u (.tup [a,b])from ev▸hu) λt us ht qg=>?_
 refine gX (Ps:=λus=>rM q.Φ t us->_) us qg (λua us Fp qg=>qt us qg λub FD ht=>?_) ht
 show wpAny _ c.A (do
   rule "assign.swapped-stores"
   let items<-unpackItems (.ref t) [x,y].length none
   assignInOrder ([x,y].reverse.map λn=>bindName c.env n) items.reverse
   pure Flow.next) _ _ _
 refine ai (jw (ai (wpAny_unpackItems_tuple (items:=#[ua,ub]) c.r.handled (ht.isTup n.h.inv.eC) λh' hx=>?_)))
 have aw:Nx c q st₁ (q.hp h' q.s.toks):=n.h.grow λb o e=>hx b o (df (cE e)) e
 exact ai (mz (oh (mW aw.h (aw.vr FD) n2 nd λU jk bE U=>mz (oh (mW bE.h ((aw.tr bE).vr Fp) n1 nd λU iU fJ U=>
  av (av (hk _ _ (n.tr (aw.tr (bE.tr fJ))) rfl)))))))
noncomputable def fU (d:D):DS:=λst=>(d st).bind λx=>some (.next,x.2)
theorem Xm {e:Expr} {pos:Pos} {d:D} (hd:bX fs e d) (hs:swapsWith e none pos.line (fK fs)=pure false):kh fs (.Expr e pos) (fU d):=by
 intro c p st h
 exact .bind λv st₁ e1=>.yes λU U hk=>wpAny_Expr_any (hd h e1 λu q n hu=>hk _ _ n rfl) (by unfold interactive;rw[c.kind];rfl) ((c.zq _ _ _).trans hs)
def pL (op:Operator) (f:V->V->Option V):Prop:=∀⦃fs:FS⦄ ⦃c:Cx fs⦄ ⦃p:Pt⦄ ⦃st:St⦄ ⦃a b:V⦄ (u u':Value) (v:V),SR c st p->VR p u a->VR p u' b->f a b=some v->gw c p (inplaceOp op u u') st λq r=>VR q r v
def A_ (k:Nat) (f:V->V->Option V) (d:D):DS:=λst=>(aa k st).bind λx=>(d x.2).bind λy=>(f x.1 y.1).map λv=>(.next,{y.2 with loc:=y.2.loc.set k (some v)})
theorem abg {k:Nat} {x:Str} {np pos:Pos} {op:Operator} {e:Expr} {f:V->V->Option V} {d:D} (ho:pL op f) (hd:bX fs e d) (n:isName fs k x .local) (nl:(x==lF)=false) (nd:(fs.names.map (·.1)).Nodup):kh fs (.AugAssign (.Name x np) op e pos) (A_ k f d):=by
 intro c p st h
 refine .bind λa st₁ e1=>.bind λb bq e2=>.map λv e3 U U hk=>?_
 refine tU (k:=k) (P:=λa st₁=>d st₁=some (b,bq)->f a b=some v->_) (λa e e2 e3=>?_) e1 e2 e3
 exact h.env.ns.elim λm hm=>(hm.2 k x a n.1.1 e).elim λu w=>wpAny_AugAssign_Name (oI c.kind (c.kindOf.trans n.1.2) hm.1 w.1 (hd h e2 λu' cG aw rC=>ho u u' v aw.h (aw.vr (w.2.vn nl)) rC e3 λr jk bE hr=>
  mW bE.h hr n nd λU iU fJ U=>hk _ _ (aw.tr (bE.tr fJ)) rfl))
end
section
variable{fs:FS}
noncomputable def small (a:Int):Bool:=decide (a.natAbs<2^64)
theorem vX {a:Int} (h:small a=true):Builtin.Int.intBits a<=64:=by
 have :=of_decide_eq_true h
 exact intBits_le_64 (by omega) (by omega)
section
variable{op:Operator} {f:Int->Int->Int} {b:Int->Int->Prop} [∀i j,Decidable (b i j)]
def rG (b:Int->Int->Prop) [∀i j,Decidable (b i j)] (f:Int->Int->Int) (x y:V):Option V:=(mE x).bind λi=>(mE y).bind λj=>if b i j then some (.int (f i j))else none
abbrev aaC (g:Value->Value->Sem Value) (b:Int->Int->Prop) (f:Int->Int->Int):Prop:=∀{A:Around} {E:aJ} {s:Shared} {i j:Int} {t u:Tok} {Q:aJ},b i j->Q (.int (f i j) s.toks) {s with toks:=s.toks+1}->wpAny cW A (g (.int i t) (.int j u)) Q E s
theorem kz {g:Value->Value->Sem Value} (hg:aaC g b f) {c:Cx fs} {p:Pt} {st:St} {x y:V} (u u':Value) (v:V) (h:SR c st p) (hu:VR p u x) (hb:VR p u' y) (e:rG b f x y=some v):gw c p (g u u') st λq r=>VR q r v:=
 Fw u e hu λi t e=>Fw u' e hb λj t' e=>sL v e λhc U U hk=>hg hc (hk _ _ (h.tok _) .int)
end
def PE:=rG (λU U=>True) (·+·)
def gI:=rG (λU U=>True) (·-·)
def y_:=rG (λa b=>(small a||small b)=true) (·*·)
def fL:=rG (λU b=>b≠0/\b.natAbs<1073741824) Int.fdiv
def fw:=rG (λU b=>b≠0) Int.fmod
def FO:=rG (λa b=>0<=b/\b<=1000000/\a.natAbs<2^64) λa b=>a^b.toNat
def Vz:=rG (λa b=>0<=b/\b<=1000000/\a.natAbs<2^64) λa b=>a*2^b.toNat
def FN:=rG (λU b=>0<=b) λa b=>a.fdiv (2^b.toNat)
def KH:=rG (λU U=>True) Builtin.bitAnd
theorem RX:g7 .Add PE:=λU U U U U U=>kz λU h=>add_int h
theorem Rr:g7 .Sub gI:=λU U U U U U=>kz λU h=>sub_int h
theorem LM:pL .Sub gI:=λU U U U U U=>kz λU h=>P.isub_int h
theorem LO:pL .Add PE:=λU U U U U U=>kz λU h=>P.iadd_int h
def mq:=@Bool.or_eq_true_iff
theorem Ry:g7 .Mult y_:=λU U U U U U=>kz λhc h=>mul_int h ((mq.1 hc).elim (λq=>IntMulOk.of_left (vX q)) λq=>IntMulOk.of_right (vX q))
theorem LP:g7 .FloorDiv fL:=λU U U U U U=>kz λhc h=>floordiv_int hc.1 h (.inl (PyProof.noPylong_small hc.2))
theorem Rz:g7 .Mod fw:=λU U U U U U=>kz λhc h=>mod_int' hc h
theorem Rw:g7 .Pow FO:=λU U U U U U=>kz λhc h=>pow_int_small hc.1 hc.2.1 hc.2.2 h
theorem Rv:g7 .LShift Vz:=λU U U U U U=>kz λhc h=>lshift_int_small hc.1 hc.2.1 hc.2.2 h
theorem Ru:g7 .RShift FN:=λU U U U U U=>kz λhc h=>rshift_int hc h
theorem RU:g7 .BitAnd KH:=λU U U U U U=>kz λU h=>and_int h
def lN (d:D):D:=λst=>(d st).bind λx=>(mE x.1).map λi=>(.int (-i),x.2)
theorem aa2 {e:Expr} {pos:Pos} {d:D} (hd:bX fs e d):bX fs (.UnaryOp .USub e pos) (lN d):=by
 intro c p st h
 exact .bind λa st₁ e1=>.map λi e2 U U hk=>wpAny_UnaryOp (hd h e1 λu q n hu=>pO u (show VR q u (.int i)from jN e2▸hu) λt=>neg_int (hk _ _ (n.tr (n.h.tok _)) .int))
def rJ (f:Int->Int->Bool) (_:aj) (a b:V):Option Bool:=(mE a).bind λi=>(mE b).map λj=>f i j
def F5 (f:ar->ar->Bool) (_:aj) (a b:V):Option Bool:=(nP a).bind λi=>(nP b).map λj=>f i j
theorem tY {op:CmpOp} {f:Int->Int->Bool} (hg:∀{A:Around} {E:aJ} {s:Shared} {a b:Int} {t u:Tok} {Q:aJ},Q (.bool (f a b)) s->wpAny cW A (compareOp op (.int a t) (.int b u)) Q E s):
  dG op (rJ f):=λU U U U U U u u' v h hu hb e=>Fw u e hu λi t e=>aIM u' v e hb λj t' U U hk=>hg (hk _ _ h.same rfl)
theorem DM {op:CmpOp} {f:ar->ar->Bool} (hg:∀{A:Around} {E:aJ} {s:Shared} {a b:ar} {t u:Tok} {Q:aJ},Q (.bool (f a b)) s->wpAny cW A (compareOp op (.str (S a) t) (.str (S b) u)) Q E s):
  dG op (F5 f):=λU U U U U U u u' v h hu hb e=>y7 u e hu λi U t e=>aSM u' v e hb λj U t' U U hk=>hg (hk _ _ h.same rfl)
theorem abk:dG .Lt (rJ λa b=>decide (a<b)):=tY λh=>lt_int h
theorem abl:dG .LtE (rJ λa b=>decide (a<=b)):=tY λh=>le_int h
theorem abm:dG .Gt (rJ λa b=>decide (b<a)):=tY λh=>gt_int h
theorem abn:dG .GtE (rJ λa b=>decide (a>=b)):=tY λh=>P.ge_int h
theorem XK:dG .Lt (F5 λa b=>decide (a<b)):=DM λh=>P.lt_str h
theorem XQ:dG .Gt (F5 λa b=>decide (b<a)):=DM λh=>P.gt_str h
noncomputable def AQ (f g:aj->V->V->Option Bool) (H:aj) (a b:V):Option Bool:=(f H a b).or (g H a b)
theorem OE {β:Type} {x y:Option β} {v:β} (e:x.or y=some v):x=some v\/y=some v:=(Option.or_eq_some_iff.1 e).imp id And.right
theorem pI {op:CmpOp} {f g:aj->V->V->Option Bool} (hf:dG op f) (hg:dG op g):dG op (AQ f g):=λU U U U U U u u' v h hu hb e=>(OE e).elim (hf u u' v h hu hb) (hg u u' v h hu hb)
noncomputable def OD (f g:V->V->Option V) (a b:V):Option V:=(f a b).or (g a b)
theorem O_ {op:Operator} {f g:V->V->Option V} (hf:g7 op f) (hg:g7 op g):g7 op (OD f g):=λU U U U U U u u' v h hu hb e=>(OE e).elim (hf u u' v h hu hb) (hg u u' v h hu hb)
theorem XN {op:Operator} {f g:V->V->Option V} (hf:pL op f) (hg:pL op g):pL op (OD f g):=λU U U U U U u u' v h hu hb e=>(OE e).elim (hf u u' v h hu hb) (hg u u' v h hu hb)
def ltV:=AQ (rJ λa b=>decide (a<b)) (F5 λa b=>decide (a<b))
def xH:=AQ (rJ λa b=>decide (b<a)) (F5 λa b=>decide (b<a))
theorem XJ:dG .Lt ltV:=pI abk XK
theorem XO:dG .Gt xH:=pI abm XQ
def Ef (a b:V):Option V:=(nP a).bind λx=>(nP b).bind λy=>if x.length+y.length<=16777216 then some (.str (x++y))else none
theorem vL (a b:ar):S a++S b=S (a++b):=by
 apply Str.ext'
 rw[Str.cps_append]
 simp[S]
theorem Fj {c:Cx fs} {p:Pt} {st:St} {a b:ar} {t u:Tok} {k:aJ} (h:SR c st p) (ha:a.length<=16777216) (hb:b.length<=16777216) (hz:a.length+b.length<=16777216) (hk:∀r q,Nx c p st q->VR q r (.str (a++b))->k r q.s):
  (if(S a).length==0 then Made.val (.str (S b) u)else if(S b).length==0 then Made.val (.str (S a) t)else Made.str (S a++S b)).post k p.s:=by
 have z:(a++b).length<=16777216:=aA (iG bH) hz
 cases a with
 |nil=>exact hk _ _ h.same (.str hb)
 |cons x a=>cases b with
  |nil=>exact hk _ _ h.same (by rw[eh];exact .str ha)
  |cons y b=>rw[vL];exact⟨z,hk _ _ (h.tok _) (.str z)⟩
theorem DW {g:Value->Value->Sem Value} (hg:∀{A:Around} {E:aJ} {s:Shared} {a b:Str} {t u:Tok} {Q:aJ},(if a.length==0 then Made.val (.str b u)else if b.length==0 then Made.val (.str a t)else Made.str (a++b)).post Q s->wpAny cW A (g (.str a t) (.str b u)) Q E s)
  {c:Cx fs} {p:Pt} {st:St} {x y:V} (u u':Value) (v:V) (h:SR c st p) (hu:VR p u x) (hb:VR p u' y) (e:Ef x y=some v):gw c p (g u u') st λq r=>VR q r v:=
 y7 u e hu λx h1 t e=>y7 u' e hb λy h2 t' e=>sL v e λhz U U hk=>hg (Fj h h1 h2 hz hk)
theorem RW:g7 .Add Ef:=λU U U U U U=>DW λh=>P.add_str h
theorem LN:pL .Add Ef:=λU U U U U U=>DW λh=>P.iadd_str h
end
section
variable{fs:FS}
mutual
def yV:V->PyData
 | .none=>.none
 | .bool b=>.bool b
 | .int i=>.int i
 | .str x=>.str (S x)
 | .tup l=>.tuple (ug l)
 | .lst l=>.list (ug l)
 |_=>.dict []
def ug:aq->List PyData
 |[]=>[]
 |v::l=>yV v::ug l
end
def jl (n:Nat) (v:V):Bool:=(yV v).canLay0&&decide ((yV v).depth<=n)
def jo (n:Nat) (l:aq):Bool:=PyData.canLayAll0 (ug l)&&decide (PyData.depthAll (ug l)<=n)
def J1 (a b:V):Bool:=PyData.eqv (yV a) (yV b)
def AZ (a b:aq):Bool:=PyData.eqvAll (ug a) (ug b)
section
variable{n:Nat} {a b v:V} {l m:aq}
theorem n7 {x:ar}:jl n (.str x)=x.all λc=>decide (c<1114112):=by
 show(PyData.strOk (S x)&&true)=_
 rw[Bool.and_true];unfold PyData.strOk S;exact List.all_toArray
theorem sW {a n:Nat}:decide (a+1<=n+1)=decide (a<=n):=decide_eq_decide.2 Nat.succ_le_succ_iff
theorem vd:jl (n+1) (.tup l)=jo n l:=ak (_&&·) sW
theorem kF:jl (n+1) (.lst l)=jo n l:=ak (_&&·) sW
theorem z0 {ks:aG}:jl n (.eK ks l)=false:=rfl
def iu:=@Bool.eq_iff_iff
def iB:=@decide_eq_true_eq
theorem d9:jo n (v::l)=(jl n v&&jo n l):=by
 show((_&&_)&&decide (max _ _<=n))=((_&&_)&&(_&&_))
 rw[iu];simp only[bp,iB,Nat.max_le,and_assoc,and_left_comm]
theorem aaB (x y:ar):(S x==S y)=(x==y):=by rw[iu,beq_iff_eq,beq_iff_eq];exact⟨C',ak S⟩
theorem yn {x y:ar}:J1 (.str x) (.str y)=(x==y):=aaB x y
theorem j7:AZ (a::l) (b::m)=(J1 a b&&AZ l m):=rfl
end
section
variable{c:Cx fs} {p:Pt} {st:St} {h:Heap}
theorem vO {a:Addr} {us:bw} {ds:List PyData} {as:List Addr} (ht:ql h.get? a us) (r:ReadsAll h us ds as):∃as,Reads h (.ref a) (.list ds) as:=ht.2.elim λk ho=>⟨_,.list ho rfl rfl r⟩
def aX:=@Bool.and_eq_true_iff
theorem qD (hs:Sub p.Φ p.s.heap) (v:V):∀u,VR p u v->(yV v).canLay0=true->∃as,Reads p.s.heap u (yV v) as:=
 V.rec (motive_1:=λv=>∀u,VR p u v->(yV v).canLay0=true->∃as,Reads p.s.heap u (yV v) as) (motive_2:=λl=>∀us,bS p us l->PyData.canLayAll0 (ug l)=true->∃as,ReadsAll p.s.heap us (ug l) as)
  (λu h U=>Kl u h ⟨_,.none⟩) (λb u h U=>ur u h ⟨_,.bool b⟩) (λi u h U=>pO u h λt=>⟨_,.int _ _⟩) (λx u h U=>qi u h λU t=>⟨_,.str _ _⟩)
  (λl ih u h k=>qh u h λa us t hv=>(ih us hv k).elim λas r=>t.2.elim λo ho=>ho.2.2.elim λn hd=>⟨_,.tuple (hs _ _ ho.1) ho.2.1 hd r⟩)
  (λl ih u h k=>xJ u h λa us t hv=>(ih us hv k).elim λas r=>vO (t.mono hs) r)
  (λU U U U U k=>nomatch k) (λU U U U k=>nomatch k) (λU U U k=>nomatch k) (λU U U k=>nomatch k) (λU h U=>h.elim)
  (λus h U=>tj us h ⟨_,.nil⟩) (λv l ih ih' us h k=>gX us h λu us h1 h2=>(ih u h1 (aX.1 k).1).elim λas r=>(ih' us h2 (aX.1 k).2).elim λbs r'=>⟨_,.cons r r'⟩) v
noncomputable def dE (H:aj) (n:Nat):Option aq:=match H[n]? with
 |some (some (.list l))=>some l
 |_=>none
theorem lT {H:aj} {n:Nat} {l:aq} (e:dE H n=some l):H[n]?=some (some (.list l)):=by
 unfold dE at e
 match H[n]?,e with
 |some (some (.list l)),e=>exact ak (λx=>some (some (bJ.list x))) (aP e)
theorem SR.live (h:SR c st p) {n:Nat} {l:aq} {a:Addr} (e:dE st.H n=some l) (ha:p.ρ[n]?=some a):∃us,ql p.s.heap.get? a us/\bS p us l:=by
 refine v5 (h.inv.live n _ (lT e)) λb h1 U U r=>?_
 exact aP (h1.symm.trans ha)▸r
def cR (H:aj):V->V
 | .ref n=>(dE H n).elim (.ref n) .lst
 |v=>v
theorem El (hs:Sub p.Φ p.s.heap) {l:aq}:∀us,bS p us l->PyData.canLayAll0 (ug l)=true->∃as,ReadsAll p.s.heap us (ug l) as:=by
 induction l with
 |nil=>exact λus h U=>tj us h ⟨_,.nil⟩
 |cons v l ih=>exact λus h k=>gX us h λu us h1 h2=>(qD hs v u h1 (aX.1 k).1).elim λas r=>(ih us h2 (aX.1 k).2).elim λbs r'=>⟨_,.cons r r'⟩
theorem sY {v:V} (h:SR c st p) (u:Value) (hu:VR p u v) (e:(yV (cR st.H v)).canLay0=true):∃as,Reads p.s.heap u (yV (cR st.H v)) as:=by
 cases v with
 |ref n=>
  cases q:dE st.H n with
  |none=>exact nomatch(ak (λo=>(yV (Option.elim o (V.ref n) V.lst)).canLay0) q).symm.trans e
  |some l=>
   have d:cR st.H (.ref n)= .lst l:=ak (λo=>Option.elim o (V.ref n) V.lst) q
   rw[d]at e |-
   exact uj u hu λa ha=>(h.live q ha).elim λus w=>(El h.inv.eC us w.2 e).elim λas r=>vO w.1 r
 |_=>exact qD h.inv.eC _ u hu e
theorem g8 {n:Nat} {v:V} (hn:n<=8) (h:jl n v=true):(yV v).canLay0=true/\SeqAt.shaped (yV v)=true:=by
 have :=aX.1 h
 exact⟨this.1,aX.2 ⟨this.1,decide_eq_true (aA (of_decide_eq_true this.2) (aA hn (by decide)))⟩⟩
theorem Rm.CC {l:Nat} {A:Around} (r:Rm l A):A.units+64<cLine:=u64 r.units (by decide)
def Pz (f:Bool->Bool) (H:aj) (a b:V):Option Bool:=if(jl 8 (cR H a)&&jl 8 (cR H b))=true then some (f (J1 (cR H a) (cR H b)))else none
def eqW:=Pz id
def J3:=Pz not
theorem DE {f:Bool->Bool} {op:CmpOp} (hg:∀{A:Around} {E:aJ} {s:Shared} {Q:aJ} {a b:Value} {da db:PyData} {as bs:List Addr},Reads s.heap a da as->Reads s.heap b db bs->SeqAt.shaped da=true->SeqAt.shaped db=true->A.units+64<cLine->Q (.bool (f (PyData.eqv da db))) s->wpAny cW A (compareOp op a b) Q E s):
  dG op (Pz f):=λU U U U U U u u' v h hu hb e=>sL v e λhc U U hk=>by
 obtain⟨h1,h2⟩:=aX.1 hc
 exact(sY h u hu (g8 (aF _) h1).1).elim λas r1=>(sY h u' hb (g8 (aF _) h2).1).elim λbs r2=>hg r1 r2 (g8 (aF _) h1).2 (g8 (aF _) h2).2 (Cx.r _).CC (hk _ _ h.same rfl)
theorem XU:dG .Eq eqW:=DE λr1 r2 s1 s2 u q=>eq_dataH r1 r2 s1 s2 u q
theorem XF:dG .NotEq J3:=DE λr1 r2 s1 s2 u q=>ne_dataH r1 r2 s1 s2 u q
noncomputable def Gm:V->Bool
 | .none=>true
 |_=>false
noncomputable def NH:V->Option Bool
 | .none=>some false
 | .str _=>some true
 |_=>none
def Sj (_:aj) (a b:V):Option Bool:=(OW a).bind λx=>(OW b).map λy=>x !=y
def Hk (_:aj) (a b:V):Option Bool:=if Gm b=true then NH a else none
def fy:=AQ Sj Hk
theorem qH {H:aj} {x y:Bool}:fy H (.bool x) (.bool y)=some (x !=y):=rfl
theorem I6 (b:V):cond (Gm b) (b= .none) True:=by cases b<;>first|exact rfl|exact True.intro
theorem IK (a:V):(NH a).elim True λr=>(a= .none/\false=r)\/∃x,a= .str x/\true=r:=by cases a<;>first|exact True.intro|exact .inl ⟨rfl,rfl⟩|exact .inr ⟨_,rfl,rfl⟩
theorem LK:dG .IsNot fy:=pI
 (λU U p U U U u u' v h hu hb e U U hk=>by
  refine x3 (aM.1 e) λx e1 e=>?_
  refine x3 (aO.1 e) λy e2 e=>?_
  refine ur u (show VR p u (.bool x)from pX e1▸hu) (ur u' (show VR p u' (.bool y)from pX e2▸hb) ?_)
  exact wpAny_isNot_plain (by cases x<;>cases y<;>rfl) (hk _ _ h.same (ak _ (Eq.trans (by cases x<;>cases y<;>rfl) e))))
 λU U p U a b u u' v h hu hb e U U hk=>by
  unfold Hk at e
  by_cases q:Gm b=true
  ·rw[ag q]at e
   refine Kl u' (show VR p u' .none from(ak (λx=>cond x (b=V.none) True) q).mp (I6 b)▸hb) ?_
   rcases(ak (λo=>Option.elim o True λr=>(a= .none/\false=r)\/∃x,a=V.str x/\true=r) e).mp (IK a)with⟨e1,e2⟩|⟨x,e1,e2⟩
   ·exact Kl u (show VR p u .none from e1▸hu) (isnot_none_gen (hk _ _ h.same (ak _ e2)))
   ·exact qi u (show VR p u (.str x)from e1▸hu) λU t=>isnot_none_gen (hk _ _ h.same (ak _ e2))
  ·rw[af q]at e;cases e
end
end
section
variable{fs:FS} {c:Cx fs} {p q:Pt} {st st':St} {Φ:PH} {H:aj} {PP:Value->Prop}
theorem ql.isList {a:Addr} {us:bw} {h:Heap} (x:ql Φ a us) (hs:Sub Φ h):h.IsList a us.toArray:=x.2.imp' _ λn ho=>⟨hs _ _ ho,rfl,n,rfl⟩
theorem rM.uV {a:Addr} {us:bw} {h:Heap} (x:rM Φ a us) (hs:Sub Φ h):IsTup h a us.toArray:=x.2.imp λU e=>⟨hs _ _ e.1,e.2⟩
theorem uz.dictOf {a:Addr} {d5:List (Str×Value)} {h:Heap} (x:uz Φ a d5) (hs:Sub Φ h):h.DictOf (strKind G.prog G.w) a d5:=let⟨_,o,ho,es,ep,r⟩:=x;⟨o,es,ep,hs _ _ ho,r⟩
theorem uz.nd {a:Addr} {d5:List (Str×Value)} (x:uz Φ a d5):(d5.map (·.1)).Nodup:=let⟨_,_,_,_,_,_,_,_,_,nd⟩:=x;nd
theorem sub_self (h:Heap):Sub h.get? h:=λU U e=>e
theorem bS.get {vs:aq} {v:V}:∀{us:bw} {n:Nat},bS p us vs->vs[n]?=some v->∃u,us[n]?=some u/\VR p u v:=by
 induction vs with
 |nil=>exact λU e=>nomatch e
 |cons w vs ih=>
   refine λ{us n} h e=>gX us h λu us h1 h2=>?_
   cases n with
   |zero=>cases e;exact⟨u,rfl,h1⟩
   |succ n=>exact(ih h2 (n:=n) e:)
def b8 (H:aj):V->Option aq
 | .lst l=>some l
 | .ref n=>dE H n
 |_=>none
@[elab_as_elim] theorem kA {v:V} {l:aq} (u:Value) (h:SR c st p) (hu:VR p u v) (e:b8 st.H v=some l) (k:∀a us,ql p.s.heap.get? a us->bS p us l->PP (.ref a)):PP u:=by
 cases v with
 |lst x=>exact xJ u hu λa us ht hv=>k a us (ht.mono h.inv.eC) (aP e▸hv)
 |ref n=>exact uj u hu λa ha=>(h.live e ha).elim λus w=>k a us w.1 w.2
 |_=>cases e
noncomputable def gB (H:aj) (n:Nat):Option (aG×aq):=match H[n]? with
 |some (some (.dict ks l))=>some (ks,l)
 |_=>none
theorem vi {H:aj} {n:Nat} {x:aG×aq} (e:gB H n=some x):H[n]?=some (some (.dict x.1 x.2)):=by
 unfold gB at e
 match H[n]?,e with
 |some (some (.dict ks l)),e=>exact ak (λx=>some (some (bJ.dict x.1 x.2))) (aP e)
abbrev WN (p:Pt) (Φ:PH) (a:Addr) (us:bw) (x:aG×aq):Prop:=uz Φ a ((x.1.map S).zip us)/\bS p us x.2/\x.1.length=us.length
theorem SR.gB (h:SR c st p) {n:Nat} {x:aG×aq} {a:Addr} (e:gB st.H n=some x) (ha:p.ρ[n]?=some a):∃us,WN p p.s.heap.get? a us x:=by
 refine v5 (h.inv.live n _ (vi e)) λb h1 U U r=>?_
 exact aP (h1.symm.trans ha)▸r
def rS (H:aj):V->Option (aG×aq)
 | .eK ks l=>some (ks,l)
 | .ref n=>gB H n
 |_=>none
@[elab_as_elim] theorem xU {v:V} {x:aG×aq} (u:Value) (h:SR c st p) (hu:VR p u v) (e:rS st.H v=some x) (k:∀a us,WN p p.s.heap.get? a us x->PP (.ref a)):PP u:=by
 cases v with
 |eK ks l=>exact xN u hu λa us ht hv hl=>k a us (aP e▸⟨⟨ht.1,tM h.inv.eC ht.2⟩,hv,hl⟩)
 |ref n=>exact uj u hu λa ha=>(h.gB e ha).elim λus w=>k a us w
 |_=>cases e
noncomputable def cz:aG->aq->ar->Option V
 |k::ks,v::l,x=>if k=x then some v else cz ks l x
 |_,_,_=>none
def kL:=@List.find?_cons
theorem sA {x:ar} {v:V}:∀{ks:aG} {l:aq} {us:bw},bS p us l->cz ks l x=some v->∃u,valueAt ((ks.map S).zip us) (S x)=some u/\VR p u v:=by
 intro ks
 induction ks with
 |nil=>exact λ{l us} U e=>by cases l<;>cases e
 |cons k ks ih=>
   intro l us h e
   cases l with
   |nil=>cases e
   |cons w l=>
    refine gX us h λu us h1 h2=>?_
    replace e:(if k=x then some w else cz ks l x)=some v:=e
    show∃u',(((S k,u)::(ks.map S).zip us).find? _).map _=some u'/\_
    by_cases q:k=x
    ·rw[ag q]at e;cases e;exact⟨u,by simp[q],h1⟩
    ·rw[af q]at e
     rw[kL,decide_eq_false λe=>q (C' e)]
     exact ih h2 e
theorem uC (x:ar) (t:Tok):(PySem.strKind G.prog G.w).is (S x) (.str (S x) t)=true:=by simp[PySem.strKind,Value.isStrOf]
noncomputable def iR {β:Type} (l:List β) (i:Int):Option β:=if 0<=i then l[i.toNat]? else if 0<=i+l.length then l[(i+l.length).toNat]? else none
theorem u_ {β:Type} {l:List β} {i:Int} {b:β} (h:iR l i=some b):(-(l.length:Int)<=i/\i<l.length)/\∃j,l[j]?=some b/\seqIndex? i l.length=some j/\(0<=i->j=i.toNat)/\(¬0<=i->j=(i+l.length).toNat):=by
 unfold iR at h
 unfold seqIndex?
 by_cases h0:0<=i
 ·rw[ag h0]at h
  have hl:=(bO.1 h).1
  exact⟨by exact Z63 h0 hl,_,h,by simp only;rw[af (show¬i<0 by exact Z64 h0),ag (by simp;exact Z65 h0 hl)],λU=>rfl,λk=>absurd h0 k⟩
 ·rw[af h0]at h
  by_cases h1:0<=i+l.length
  ·rw[ag h1]at h
   exact⟨by exact Z66 h1 h0,_,h,by simp only;rw[ag (show i<0 by exact Z67 h0),ag (by simp;exact Z68 h1 h0)],λk=>absurd k h0,λU=>rfl⟩
  ·rw[af h1]at h;cases h
theorem bS.iR {us:bw} {vs:aq} {i:Int} {v:V} (h:bS p us vs) (e:Internal.iR vs i=some v):∃u,Internal.iR us i=some u/\VR p u v:=by
 unfold Internal.iR at e |-
 rw[bS.length h]
 by_cases h0:0<=i
 ·rw[ag h0]at e |-;exact h.get e
 ·rw[af h0]at e |-
  by_cases h1:0<=i+vs.length
  ·rw[ag h1]at e |-;exact h.get e
  ·rw[af h1]at e;cases e
def Pn (H:aj) (o:V) (i:Int):Option V:=match o with
 | .tup l=>iR l i
 | .str x=>(iR x i).map λc=>.str [c]
 |o=>(b8 H o).bind λl=>iR l i
theorem Sl {H:aj} {n:Nat} {i:Int}:Pn H (.ref n) i=(dE H n).bind λl=>iR l i:=rfl
def gC (H:aj) (o i:V):Option V:=(mE i).elim ((nP i).bind λk=>(rS H o).bind λx=>cz x.1 x.2 k) (Pn H o)
@[elab_as_elim] theorem We {β:Type} {a:V} {f:Int->Option β} {g:ar->Option β} {v:β} (u:Value) (e:(mE a).elim ((nP a).bind g) f=some v) (h:VR p u a) (k:∀i t,f i=some v->PP (.int i t)) (k':∀x t,g x=some v->PP (.str (S x) t)):PP u:=by
 cases q:mE a with
 |some i=>
  rw[q]at e
  rw[jN q]at h
  exact pO u h λt=>k i t e
 |none=>
  rw[q]at e
  exact y7 u e h λx U t e=>k' x t e
def PS (c:Cx fs) (p:Pt) (st:St) (v:V) (u u':Value):Prop:=∃T id,(p.s.TypeIs u T/\typeLookup (.type T) "__getitem__"=pure (some (.builtin id)))/\gw c p (getItem u u') st λq r=>VR q r v
def f9:=@List.getElem?_toArray
theorem Ja {o:V} {i:Int} {t:Tok} {v:V} {u:Value} (h:SR c st p) (hu:VR p u o) (e:((b8 st.H o).bind λl=>iR l i)=some v):PS c p st v u (.int i t):=by
 refine x3 (aM.1 e) λl hl e=>?_
 refine kA u h hu hl λa us ht qg=>?_
 refine x3 (qg.iR e) λw hw hr=>?_
 obtain⟨⟨b1,b2⟩,j,hj,_,j1,j2⟩:=u_ hw
 have hz:=ht.1
 have L:=ht.isList (sub_self _)
 refine⟨_,_,⟨L.typeIs,slot_list_getitem.lookup⟩,λU U hk=>?_⟩
 by_cases h0:0<=i
 ·exact wpAny_getItem_list L h0 (FT b2 hz) (by rw[<-j1 h0];exact f9.trans hj) (hk _ _ h.same hr)
 ·exact wpAny_getItem_list_neg L (by exact Z67 h0) (by simpa using b1) (FY b1 hz) (by have :=j2 h0;subst this;simpa using hj) (hk _ _ h.same hr)
def fc:=@typeIs_str
@[elab_as_elim] theorem VP {o i:V} {v:V} {u:Value} (u':Value) (h:SR c st p) (hu:VR p u o) (hi:VR p u' i) (e:gC st.H o i=some v) (k:∀i t,PS c p st v u (.int i t)->PP (.int i t)) (k':∀x t,PS c p st v u (.str x t)->PP (.str x t)):PP u':=by
 refine We u' e hi (λi t e=>k i t ?_) λx t e=>k' _ t ?_
 ·cases o with
  |tup l=>
    refine qh u hu λa us ht qg=>(qg.iR e).elim λw hw=>?_
    obtain⟨⟨b1,b2⟩,j,hj,hx,_⟩:=u_ hw.1
    have hz:=ht.1
    exact⟨_,_,⟨(ht.uV h.inv.eC).typeIs,slot_tuple_getitem.lookup⟩,λU U hk=>getItem_tuple (ht.uV h.inv.eC) (FY b1 hz) (FT b2 hz) hx (f9.trans hj) (hk _ _ h.same hw.2)⟩
  |str x=>
    refine qi u hu λhz t'=>?_
    obtain⟨c,hc,rfl⟩:=aO.1 e
    obtain⟨⟨b1,b2⟩,j,hj,hx,_⟩:=u_ hc
    refine⟨_,_,⟨fc p.s _ t',F.slot_str_getitem.lookup⟩,λU U hk=>P.getItem_str (c:=c) ?_ ?_ (hk _ _ (h.tok _) (.str (x:=[c]) (ay rfl)))⟩
    ·rw[decide_eq_false (jv.2 (FY b1 hz)),decide_eq_false (Int.not_le.2 (FT b2 hz))];rfl
    ·rw[ij,hx];exact f9.trans hj
  |_=>exact Ja h hu e
 ·refine x3 (aM.1 e) λy hy e=>?_
  exact xU u h hu hy λa us w=>(sA w.2.1 e).elim λz hz=>⟨_,_,⟨(w.1.dictOf (sub_self _)).typeIs,slot_dict_getitem.lookup⟩,λU U hk=>wpAny_getItem_of (uC _ t) (w.1.dictOf (sub_self _)).mapOf hz.1 (hk _ _ (h.tok _) ((h.tok _).vr hz.2))⟩
def aH (o i:D):D:=λst=>(o st).bind λx=>(i x.2).bind λy=>(gC y.2.H x.1 y.1).map λv=>(v,y.2)
theorem aba {e i:Expr} {pos:Pos} {d di:D} (hd:bX fs e d) (hi:bX fs i di) (hs:∀o x t,subscripted i false o (.int x t)=operate [o,.int x t] (getItem o (.int x t)))
  (xG:∀o x t,subscripted i false o (.str x t)=operate [o,.str x t] (getItem o (.str x t))):bX fs (.Subscript e i pos) (aH d di):=by
 intro c p st h
 exact .bind λa st₁ e1=>.bind λb bq e2=>.map λw e3 U U hk=>Subscript_ (hd h e1 λu c_ n₁ hu=>hi n₁.h e2 λu' cG aw rC=>VP u' aw.h (aw.vr hu) rC e3
  (λi t ⟨T,id,hT,g⟩=>tail_any hT.1 hT.2 (g λU U bE=>hk _ _ (n₁.tr (aw.tr bE))) (hs _ _ _)) λi t ⟨T,id,hT,g⟩=>tail_any hT.1 hT.2 (g λU U bE=>hk _ _ (n₁.tr (aw.tr bE))) (xG _ _ _))
end
section
variable{fs:FS} {c:Cx fs} {p q:Pt} {st st':St} {H H':aj} {PP:Value->Prop} {Ps:bw->Prop} {β:Type}
def q6:=@List.getElem?_set_self
theorem SR.Ge (h:SR c st p) {n:Nat} {o o':bJ} {a:Addr} {h':Heap} {t:Nat} (e:st.H[n]?=some (some o)) (ha:p.ρ[n]?=some a) (sb:Heap.ExtBut a p.s.heap h') (r:OR (p.hp h' t) a o') (tb:(st.H.set n (some o'))[0]?=some (some .tab)):Nx c p ⟨st.H.set n (some o'),st.loc⟩ (p.hp h' t):=by
 have I:=h.inv
 refine v5 (I.live n o e) λb h1 h2 h3 U=>?_
 cases aP (h1.symm.trans ha)
 have x:lM p (p.hp h' t):=.V' sb (r.there)
 have nK:∀{Φ:PH} {b ob},Φ a=none->Φ b=some ob->b≠a:=λk e q=>by subst q;exact nomatch k.symm.trans e
 refine .of h x ⟨λb ob q=>sb b ob (nK h2 q) (I.kp b ob q),λb ob q=>sb b ob (nK h3 q) (I.eC b ob q),by rw[List.length_set];exact I.len,I.nd,λb m=>x.ex b (I.lt b m),λm ob q=>?_,I.sm,tb,I.so,I.tr⟩
  λb ob f w=>sb b ob (λz=>(h.env.fr b f).2 (z▸bI ha)) w
 by_cases q':m=n
 ·subst q'
  rw[q6 (bO.1 e).1]at q
  cases q
  exact⟨a,ha,h2,h3,r⟩
 ·rw[jh (Ne.symm q')]at q
  exact(I.live m ob q).imp λb g=>⟨g.1,g.2.1,g.2.2.1,g.2.2.2.mono x.toLe λo e=>sb b o (λz=>q' ((qN (bO.1 g.1).1 I.nd).mp (g.1.trans (z▸ha.symm)))) e⟩
theorem SR.turn (h:SR c st p) {n:Nat} {o o':bJ} {a:Addr} {h':Heap} {t:Nat} (e:st.H[n]?=some (some o)) (nt:o≠.tab) (ha:p.ρ[n]?=some a) (sb:Heap.SameBut a p.s.heap h') (r:OR (p.hp h' t) a o'):Nx c p ⟨st.H.set n (some o'),st.loc⟩ (p.hp h' t):=
 h.Ge e ha (λb U n e=>(sb.2 b n).trans e) r ((jh λq=>nt (aP (aP ((q▸e).symm.trans h.inv.tb)))).trans h.inv.tb)
theorem qw {h:Heap} {a:Addr} {us:bw} {n:Nat} (f:dY->dY) (e:h.get? a=some (nR us n)):∃m,(h.update a (Obj.mapSeq f)).get? a=some (nR (f us.toArray).toList m):=
 ⟨if(f us.toArray).size==us.toArray.size then n else n+1,(Heap.get?_update_self _ e rfl).trans rfl⟩
noncomputable def lQ:aq->Option V
 |[v]=>some v
 |_=>none
noncomputable def rK:aq->Option (V×V)
 |[v,w]=>some (v,w)
 |_=>none
theorem MV {vs:aq} {v:V} (e:lQ vs=some v):vs=[v]:=by
 match vs,e with
 |[v],e=>exact ak (λx=>[x]) (aP e)
theorem yF {vs:aq} {v:V×V} (e:rK vs=some v):vs=[v.1,v.2]:=by
 match vs,e with
 |[v,w],e=>exact ak (λx:V×V=>[x.1,x.2]) (aP e)
@[elab_as_elim] theorem jS {vs:aq} {f:V->Option β} {v:β} (us:bw) (e:(lQ vs).bind f=some v) (h:bS p us vs) (k:∀u x,VR p u x->f x=some v->Ps [u]):Ps us:=by
 refine x3 (aM.1 e) λx q e=>?_
 rw[MV q]at h
 exact qt us h λu hu=>k u x hu e
@[elab_as_elim] theorem GK {vs:aq} {f:V×V->Option β} {v:β} (us:bw) (e:(rK vs).bind f=some v) (h:bS p us vs) (k:∀u u' x,VR p u x.1->VR p u' x.2->f x=some v->Ps [u,u']):Ps us:=by
 refine x3 (aM.1 e) λx q e=>?_
 rw[yF q]at h
 exact gX us h λu us hu h=>qt us h λu' rC=>k u u' x hu rC e
def mP (u:Value) (f:aj->aq->Option V):Prop:=∀⦃fs:FS⦄ ⦃c:Cx fs⦄ ⦃p:Pt⦄ ⦃st:St⦄ ⦃vs:aq⦄ (us:bw) (v:V),SR c st p->bS p us vs->f st.H vs=some v->gw c p (call u us) st λq r=>VR q r v
def d6 (fs:FS) (x:Str):Prop:=fs.names.lookup x=some .globalImplicit/\(x==("__debug__":Str))=false
theorem sR {x:Str} {pos:Pos} {u:Value} {Q:aJ} {E:aJ} (h:SR c st p) (hx:d6 fs x) (hb:G.bi x=some u) (q:Q u p.s):wpAny cW c.A (eval (.Name x pos) c.env) Q E p.s:=
 (c.g.OT _ h.inv.kp).elim λmg m=>(c.g.bns _ h.inv.kp).elim λmb b=>Name_function_global c.kind (c.kindOf.trans hx.1) (loadGlobal_builtin (c.glob.symm▸m.1) (m.2.2 x u hb) (c.bi.symm▸b.1) (b.2 x u hb) q) hx.2
theorem uZ {x:Str} {pos:Pos} {u:Value} {Q:aJ} {E:aJ} (h:SR c st p) (hx:d6 fs x) (hb:G.gl x=some u) (q:Q u p.s):wpAny cW c.A (eval (.Name x pos) c.env) Q E p.s:=
 (c.g.OT _ h.inv.kp).elim λmg m=>Name_function_global c.kind (c.kindOf.trans hx.1) (loadGlobal_global (c.glob.symm▸m.1) (m.2.1 x u hb) q) hx.2
noncomputable def a5 (f:aj->aq->Option V) (ds:DL):D:=λst=>(ds st).bind λx=>(f x.2.H x.1).map λv=>(v,x.2)
def cK (pos:Pos) (e:Expr) (es:List Expr):Prop:=kq e es/\∀env,(backTo pos (starEach es env)).any (·.1)=false
def jB:=@wpAny_Call_NameR
def oz:=@callWith_method1
theorem Rf {x:Str} {np pos:Pos} {id:String} {e:Expr} {es:List Expr} {f:aj->aq->Option V} {ds:DL} (hb:G.bi x=some (.builtin id)) (hf:mP (.builtin id) f) (hs:pE fs (e::es) ds) (hx:d6 fs x) (hp:cK pos e es):
  bX fs (.Call (.Name x np) (e::es) [] pos) (a5 f ds):=by
 intro c p st h
 exact .bind λvs st₁ e1=>.map λw e2 U U hk=>jB (sR h hx hb (oz (first:=[]) (hs pos h e1 λus q n hu=>hf us w n.h hu e2 λU U aw=>hk _ _ (n.tr aw)) (hp.1 _) (hp.2 _)))
def rg:=@PyProof.Rows.callWith_type1
theorem zK {x:Str} {np pos:Pos} {T:String} {e:Expr} {es:List Expr} {ds:DL} {vs:aq} {Q:aJ} {E:aJ} (hb:G.bi x=some (.type T)) (hs:pE fs (e::es) ds) (hx:d6 fs x) (hp:cK pos e es) (h:SR c st p) (q:ds st=some (vs,st'))
  (hq:∀us q,Nx c p st' q->bS q us vs->wpAny cW c.A (call (.type T) us) Q E q.s):wpAny cW c.A (eval (.Call (.Name x np) (e::es) [] pos) c.env) Q E p.s:=
 jB (sR h hx hb (rg (hs pos h q hq) (hp.1 _) (hp.2 _)))
def zl (T:String) (kd:aj->V->Bool):Prop:=∀⦃fs:FS⦄ ⦃c:Cx fs⦄ ⦃p:Pt⦄ ⦃st:St⦄ ⦃v:V⦄ (u:Value),SR c st p->VR p u v->kd st.H v=true->p.s.TypeIs u T/\∀a,u= .ref a->∃ob,p.s.heap.get? a=some ob/\ob.dict=none
def fA (id:String) (f:aj->V->aq->Option (V×aj)):Prop:=∀⦃fs:FS⦄ ⦃c:Cx fs⦄ ⦃p:Pt⦄ ⦃st:St⦄ ⦃v:V⦄ ⦃vs:aq⦄ (u:Value) (us:bw) (w:V×aj),SR c st p->VR p u v->bS p us vs->f st.H v vs=some w->
 gw c p (call (.builtin id) (u::us)) ⟨w.2,st.loc⟩ λq r=>VR q r w.1
def ry (H:aj) (v:V):Bool:=(b8 H v).isSome
def isD (H:aj) (v:V):Bool:=(rS H v).isSome
def nH (_:aj) (v:V):Bool:=(nP v).isSome
theorem tyL:zl "list" ry:=λU U U U U u h hu k=>(m8.1 k).elim λl e=>kA u h hu e λa us ht U=>⟨(ht.isList (sub_self _)).typeIs,λb e=>by cases e;exact ht.2.imp' _ λn ho=>⟨ho,rfl⟩⟩
theorem tyD:zl "dict" isD:=λU U U U U u h hu k=>(m8.1 k).elim λl e=>xU u h hu e λa us w=>⟨(w.1.dictOf (sub_self _)).typeIs,λb e=>by cases e;exact w.1.2.imp λo ho=>⟨ho.1,ho.2.elim λU x=>x.elim λU x=>x.1.2.1⟩⟩
theorem M6:zl "str" nH:=λU U p U U u h hu k=>(m8.1 k).elim λx e=>qi u (show VR p u (.str x)from r8 e▸hu) λU t=>⟨fc _ _ t,λa e=>nomatch e⟩
noncomputable def bC (kd:aj->V->Bool) (f:aj->V->aq->Option (V×aj)) (o:D) (ds:DL):D:=λst=>(o st).bind λx=>if kd x.2.H x.1 then
 (ds x.2).bind λy=>(f y.2.H x.1 y.1).map λv=>(v.1,⟨v.2,y.2.loc⟩)else none
section
variable{T id:String} {name:Str} {o e:Expr} {es:List Expr} {apos pos:Pos} {kd:aj->V->Bool} {f:aj->V->aq->Option (V×aj)} {d:D} {ds:DL}
def uW (T:String) (name:Str) (id:String):Prop:=(PlainAttrs T/\Slot T name id)/\typeOf (.builtin id)=pure (.type "method_descriptor")
def qu (o:Expr) (name:Str) (apos pos:Pos):Prop:=(∀env,attributeBase o name env (eval o env)=eval o env)/\(apos.endLine==pos.line)=true
def oE:=@wpAny_Call_method
theorem Xe (m:uW T name id) (ht:zl T kd) (hf:fA id f) (hd:bX fs o d) (hs:pE fs (e::es) ds) (ha:qu o name apos pos)
  (A5:∀env,((backTo pos (starEach (e::es) env)).all (λx=>!x.1)&&(backToKw pos (keywordEach [] env)).all (λx=>x.1.isSome)
   &&decide ((e::es).length+([]:List Keyword).length+(if([]:List Keyword).isEmpty then 0 else 1)<30))=true) (hp:cK pos e es):bX fs (.Call (.Attribute o name apos) (e::es) [] pos) (bC kd f d ds):=by
 intro c p st h
 exact .bind λa st₁ e1=>.iff λz=>.bind λvs bq e2=>.map λw e3 U U hk=>oE (ha.1 _) (A5 _) ha.2 m.1.1 m.1.2 m.2 (hd h e1 λu q n hu=>have t:=ht u n.h hu z
  ⟨t.1,t.2,oz (hs pos n.h e2 λus cG aw gc=>hf u us w aw.h (aw.vr hu) gc e3 λU U bE=>hk _ _ (n.tr (aw.tr bE))) (hp.1 _) (hp.2 _)⟩)
theorem Q_ (m:uW T name id) (ht:zl T kd) (hf:fA id f) (hd:bX fs o d) (ha:qu o name apos pos):bX fs (.Call (.Attribute o name apos) [] [] pos) (bC kd f d az):=by
 intro c p st h
 refine .bind λa st₁ e1=>.iff λz=>.bind λvs bq e2=>.map λw e3 U U hk=>oE (ha.1 _) rfl ha.2 m.1.1 m.1.2 m.2 (hd h e1 λu q n hu=>have t:=ht u n.h hu z
  ⟨t.1,t.2,?_⟩)
 cases e2
 exact callWith_method0 (env:=c.env) (hf u [] w n.h hu .nil e3 λU U bE=>hk _ _ (n.tr bE))
end
theorem bS.append {jF:bw} {vs vs':aq}:∀{us:bw},bS p us vs->bS p jF vs'->bS p (us++jF) (vs++vs'):=by
 induction vs with
 |nil=>exact λ{us} h h'=>tj us h h'
 |cons v vs ih=>exact λ{us} h h'=>gX us h λu us h1 h2=>.one h1 (ih h2 h')
theorem bS.take {vs:aq}:∀{us:bw} (n:Nat),bS p us vs->bS p (us.take n) (vs.take n):=by
 induction vs with
 |nil=>exact λ{us} n h=>tj us h (by rw[List.take_nil,List.take_nil];rfl)
 |cons v vs ih=>
  refine λ{us} n h=>gX us h λu us h1 h2=>?_
  cases n with
  |zero=>rfl
  |succ n=>exact .one h1 (ih n h2)
theorem bS.drop {vs:aq}:∀{us:bw} (n:Nat),bS p us vs->bS p (us.drop n) (vs.drop n):=by
 induction vs with
 |nil=>exact λ{us} n h=>tj us h (by rw[List.drop_nil,List.drop_nil];rfl)
 |cons v vs ih=>
  refine λ{us} n h=>gX us h λu us h1 h2=>?_
  cases n with
  |zero=>exact .one h1 h2
  |succ n=>exact ih n h2
def Ux (H:aj) (F:aq->Option aq):V->Option (V×aj)
 | .ref n=>(dE H n).bind λl=>(F l).map λl'=>(.none,H.set n (some (.list l')))
 |_=>none
def gU:=@Heap.SameBut.update
theorem G1 {F:aq->Option aq} {m:Value->Sem Value} {o:V} {w:V×aj} (u:Value) (h:SR c st p) (hu:VR p u o) (e:Ux st.H F o=some w) (hg:∀a ws k l l',p.s.heap.get? a=some (nR ws k)->ws.length<=16777216->bS p ws l->F l=some l'->
  ∃g:dY->dY,(bS p (g ws.toArray).toList l'/\(g ws.toArray).toList.length<=16777216)/\∀⦃K E⦄,K .none {p.s with heap:=p.s.heap.update a (Obj.mapSeq g)}->wpAny cW c.A (m (.ref a)) K E p.s):
  gw c p (m u) ⟨w.2,st.loc⟩ λq r=>VR q r w.1:=by
 cases o with
 |ref n=>
  refine x3 (aM.1 e) λl e1 e=>?_
  obtain⟨l',e2,rfl⟩:=aO.1 e
  refine uj u hu λa ha U U hk=>?_
  obtain⟨ws,⟨hz,k,ho⟩,hv⟩:=h.live e1 ha
  obtain⟨g,⟨v1,v2⟩,q⟩:=hg a ws k l l' ho hz hv e2
  exact q (hk _ _ (h.turn (t:=p.s.toks) (lT e1) nofun ha (gU ..) ⟨_,⟨v2,qw g ho⟩,v1.mono ⟨λU U e=>e,bY _⟩⟩) rfl)
 |_=>cases e
def fX (H:aj) (o:V) (vs:aq):Option (V×aj):=(lQ vs).bind λv=>Ux H (λl=>if l.length<16777216 then some (l++[v])else none) o
def gL:=@call_meets
def cU:=@sizeLine_eq
def lX:=@Nat.le_of_lt
theorem IH:fA "list.append" fX:=λU U U U U U u us w h hu gc e=>jS us e gc λux x hx e=>G1 (m:=λu=>call (.builtin "list.append") [u,ux]) u h hu e λa ws k l l' ho hz hv e=>sL l' e λz=>
 have z:ws.length<16777216:=bS.length hv▸z
 ⟨_,⟨by simpa using hv.append (.one hx .nil),by simpa using Nat.succ_le_of_lt z⟩,λU U q=>gL F.slot_list_append (T:="list") ⟨_,ho,rfl⟩ F.entry_list_append (F.args_list_append_2 _ _) (AutoListH.list_append_list_val_0 a ws.toArray k ux (by rw[cU];exact lX z)) ⟨ho,q⟩⟩
set_option tactic.hygienic true in
theorem IJ {h:Heap} {a:Addr} {o:Obj} (e:h.get? a=some o):o.isFreed=false:=by
 unfold Heap.get? at e
 split at e
 ·cases e
 ·rename_i x hx
  obtain⟨c,d,dt,sl⟩:=o
  cases dt<;>first|rfl|exact absurd e (hx _ _ _)
theorem As {h:Heap} {a:Addr} {f:Obj->Obj} (hf:∀o,h.get? a=some o->f o=o):∀b o,h.get? b=some o->(h.update a f).get? b=some o:=by
 intro b o e
 by_cases q:b=a
 ·subst q
  rw[Heap.get?_update_self f e (by rw[hf o e];exact IJ e),hf o e]
 ·exact((gU h a f).2 b q).trans e
noncomputable def xI:V->Option aq
 | .lst l=>some l
 |_=>none
theorem Uq (a:V):(xI a).elim True λi=>a= .lst i:=by cases a<;>first|exact rfl|exact True.intro
theorem yk {a:V} {l:aq} (h:xI a=some l):a= .lst l:=(ak (λo=>Option.elim o True λi=>a=V.lst i) h).mp (Uq a)
@[elab_as_elim] theorem Np {a:V} {f:aq->Option β} {v:β} (u:Value) (e:(xI a).bind f=some v) (h:VR p u a) (k:∀b us l,ql p.Φ b us->bS p us l->f l=some v->PP (.ref b)):PP u:=by
 refine x3 (aM.1 e) λi q e=>?_
 rw[yk q]at h
 exact xJ u h λb us t hv=>k b us i t hv e
def i6 (H:aj) (o:V) (vs:aq):Option (V×aj):=(lQ vs).bind λx=>(xI x).bind λm=>(Ux H (λl=>if l.length+m.length<=16777216 then some (l++m)else none) o).or ((xI o).bind λU=>if m.isEmpty then some (.none,H)else none)
def oN:=@List.eq_nil_of_length_eq_zero
theorem IF:fA "list.extend" i6:=λU c p st U U u us w h hu gc e=>jS us e gc λux x hx e=>Np ux e hx λb ys m t2 hys e=>t2.2.elim λm2 J_=>by
 have J_:=h.inv.eC _ _ J_
 have nB:=bS.length hys
 have key:∀a ws k,p.s.heap.get? a=some (nR ws k)->ws.length+m.length<=16777216->∀⦃K E⦄,K .none {p.s with heap:=p.s.heap.update a (Obj.mapSeq (·++ys.toArray))}->wpAny cW c.A (call (.builtin "list.extend") [.ref a,.ref b]) K E p.s:=λa ws k ho z U U q=>
  gL F.slot_list_extend (T:="list") ⟨_,ho,rfl⟩ F.entry_list_extend (F.args_list_extend_2 _ _) (AutoSeq1.list_extend_list_list_0 a ws.toArray k b ys.toArray m2 (by simp[Builtin.List.listTooLong,cU];omega) (by simp[cU];exact Z69 z) (by simp[cU];exact Z70 z nB)) ⟨ho,J_,q⟩
 rcases OE e with e|e
 ·refine G1 (m:=λu=>call (.builtin "list.extend") [u,.ref b]) u h hu e λa ws k l l' ho hz hv e=>sL l' e λz=>?_
  rw[<-bS.length hv]at z
  exact⟨_,⟨by simpa using hv.append hys,by simpa[nB]using z⟩,key a ws k ho z⟩
 ·refine Np u e hu λa ws l t hv e=>sL w e λz U U hk=>t.2.elim λk ho=>?_
  cases m with
  |cons=>cases z
  |nil=>
   cases oN nB
   have ho:=h.inv.eC _ _ ho
   exact key a ws k ho t.1 (hk _ _ (h.grow (t:=p.s.toks) (As λo e=>by rw[ho]at e;cases e;simp[Obj.mapSeq,nR])) rfl)
end
section
variable{fs:FS}
section
variable{A:Around} {s:Shared} {E:aJ}
def ef:=@wpAny_holding
def m6:=@wpAny_callSpecial?_slot
def j0:=@wpAny_call_entry
def jz:=@wpAny_seqItems
def iA:=@Option.bind_some
theorem BZ {prog:Program} {w:World} {a:Addr} {us:bw} {n j:Nat} {k:Int} {t:Tok} {v:Value} {Q:Unit->Shared->Prop} (ho:s.heap.get? a=some (nR us n)) (hk:-(us.length:Int)<=k/\k<us.length) (hz:us.length<=16777216)
  (hj:j=if 0<=k then k.toNat else(k+us.length).toNat) (h:Q () {s with heap:=s.heap.update a (Obj.mapSeq (·.setIfInBounds j v))}):wpAny (model prog w) A (setItem (.ref a) (.int k t) v) Q E s:=by
 have hl:s.heap.IsList a us.toArray:=⟨_,ho,rfl,n,rfl⟩
 unfold setItem
 try with_reducible refine ef ?_
 refine ai (wpAny_sequenceKey hl.typeIs (by decide) ?_)
 refine ai (m6 (name:=Str.ofString "__setitem__") hl.typeIs slot_list_setitem
  (j0 slot_list_setitem hl.typeIs entry_list_setitem ?_ (args_list_setitem _ _ _)))
 show wpAny _ _ (Builtin.List.listSubscript? (.int k t)>>=_) _ _ s
 by_cases h0:0<=k
 ·rw[ag h0]at hj
  refine ai (wpAny_listSubscript_int (fitsIndex_of h0 (FT hk.2 hz)) ?_)
  obtain⟨i,rfl⟩:=Int.eq_ofNat_of_zero_le h0
  have hi:j=i:=by exact Z72 hj
  subst hi
  have hj':j<us.toArray.size:=by simp;exact Z73 hk.2
  have JM:us.toArray[j]?=some us.toArray[j]:=q_ hj'
  show wpAny _ _ ((seqItemAt a j>>=λr=>pure (r.map (j,·)))>>=_) _ _ s
  refine ai (ai (wpAny_seqItemAt ho rfl (av ?_)))
  rw[JM]
  show wpAny _ _ (setSeqItemAt a j v>>=_) _ _ s
  refine ai (wpAny_setSeqItemAt ho rfl ?_)
  exact ai (av (av ⟨.none,rfl,av h⟩))
 ·rw[af h0]at hj
  have h0':k<0:=by exact Z67 h0
  refine ai (wpAny_listSubscript_int (fitsIndex_neg h0' (FY hk.1 hz)) ?_)
  have Pr:=seqIndex_neg (n:=us.toArray.size) h0' (by simpa using hk.1)
  obtain⟨i,rfl⟩:∃i:Nat,k=Int.negSucc i:=by
   cases k with
   |ofNat n=>exact absurd h0' (jv.2 (kQ n))
   |negSucc n=>exact⟨n,rfl⟩
  have hj':j<us.toArray.size:=by simp;omega
  have JM:us.toArray[j]?=some us.toArray[j]:=q_ hj'
  show wpAny _ _ ((Builtin.List.listItems (.ref a)>>=λxs=>pure ((seqIndex? (Int.negSucc i) xs.size).bind λi=>xs[i]?.map (i,·)))>>=_) _ _ s
  refine ai (ai ?_)
  show wpAny _ _ (seqItems? (.ref a)>>=_) _ _ s
  refine ai (jz ho rfl (av (av ?_)))
  rw[Pr]
  have hs:(Int.negSucc i+(us.toArray.size:Int)).toNat=j:=by rw[hj];simp
  rw[iA,hs,JM,iw]
  show wpAny _ _ (setSeqItemAt a j v>>=_) _ _ s
  refine ai (wpAny_setSeqItemAt ho rfl ?_)
  exact ai (av (av ⟨.none,rfl,av h⟩))
end
variable{c:Cx fs} {p q:Pt} {st st':St} {H H':aj}
noncomputable def bM:aG->aq->ar->V->aG×aq
 |k::ks,x::l,y,v=>if k=y then(k::ks,v::l)else let r:=bM ks l y v;(k::r.1,x::r.2)
 |_,_,y,v=>([y],[v])
theorem Jv {k y:ar} {ks:aG} {x v:V} {l:aq}:bM (k::ks) (x::l) y v=if k=y then(k::ks,v::l)else(k::(bM ks l y v).1,x::(bM ks l y v).2):=rfl
def aaK (H:aj) (n:Nat) (v:V) (i:Int):Option aj:=(dE H n).bind λl=>if-(l.length:Int)<=i/\i<l.length then some (H.set n (some (.list (l.set (if 0<=i then i.toNat else(i+l.length).toNat) v))))else none
def aaL (H:aj) (n:Nat) (v:V) (k:ar):Option aj:=(gB H n).bind λx=>if x.1.length<1048576/\x.1.length=x.2.length then some (H.set n (some (.dict (bM x.1 x.2 k v).1 (bM x.1 x.2 k v).2)))else none
def wm (H:aj) (o i v:V):Option aj:=match o with
 | .ref n=>(mE i).elim ((nP i).bind (aaL H n v)) (aaK H n v)
 |_=>none
theorem bS.set {vs:aq} {u:Value} {v:V} (hv:VR p u v):∀{us:bw} {j:Nat},bS p us vs->bS p (us.set j u) (vs.set j v):=by
 induction vs with
 |nil=>exact λ{us j} h=>tj us h .nil
 |cons w vs ih=>
  refine λ{us j} h=>gX us h λx us h1 h2=>?_
  cases j with
  |zero=>exact .one hv h2
  |succ j=>exact .one h1 (ih h2)
def fZ:=@List.nodup_cons
def iH:=@Nat.succ.inj
def d8:=@if_false
theorem r_ {x:ar} {u:Value} {v:V} (hv:VR p u v):∀{ks:aG} {l:aq} {us:bw},ks.length=us.length->bS p us l->(((ks.map S).zip us).map (·.1)).Nodup->
  ∃jF,stored ((ks.map S).zip us) (S x) u=((bM ks l x v).1.map S).zip jF/\bS p jF (bM ks l x v).2/\(bM ks l x v).1.length=jF.length:=by
 intro ks
 induction ks with
 |nil=>exact λ{l us} hl U U=>by cases oN hl.symm;exact⟨[u],rfl,.one hv .nil,rfl⟩
 |cons k ks ih=>
  intro l us hl h nd
  cases l with
  |nil=>rw[show us=[]from h]at hl;cases hl
  |cons y l=>
   refine gX (Ps:=λus=>(k::ks).length=us.length->(((((k::ks).map S).zip us).map (·.1)).Nodup)->∃jF,stored (((k::ks).map S).zip us) (S x) u=((bM (k::ks) (y::l) x v).1.map S).zip jF/\bS p jF (bM (k::ks) (y::l) x v).2/\(bM (k::ks) (y::l) x v).1.length=jF.length) us h (λw us h1 h2 hl nd=>?_) hl nd
   simp only[bo,kR,fZ]at nd
   rw[Jv]
   by_cases e:k=x
   ·subst e
    rw[ag rfl]
    refine⟨u::us,?_,.one hv h2,hl⟩
    simp only[bo,kR]
    unfold stored
    rw[ag (by simp),bo,ag rfl,map_store_of_not_mem _ _ _ nd.1]
   ·rw[af e]
    refine w4 (ih (iH hl) h2 nd.2) λjF a b c=>?_
    refine⟨w::jF,?_,.one h1 b,ak Nat.succ c⟩
    have ne:¬S k=S x:=λq=>e (C' q)
    simp only[bo,kR]
    rw[<-a]
    unfold stored
    simp only[List.any_cons,ne,decide_false,Bool.false_or,bo,d8]
    split<;>simp
def gT:=@List.length_zip
def l_:=@Nat.min_le_left
theorem GU {ui ux:Value} {o i x:V} (u:Value) (h:SR c st p) (hu:VR p u o) (hi:VR p ui i) (hx:VR p ux x) (e:wm st.H o i x=some H'):gw c p (setItem u ui ux) ⟨H',st.loc⟩ λU U=>True:=by
 cases o with
 |ref n=>
  refine uj u hu λa ha=>We ui e hi (λi t e=>?_) λk t e=>?_
  ·refine x3 (aM.1 e) λm hl e=>?_
   refine sL H' e λhk U U K=>?_
   obtain⟨ws,⟨hz,k,ho⟩,hv⟩:=h.live hl ha
   have hlen:=bS.length hv
   rw[<-hlen]at hk K
   obtain⟨m',hm⟩:=qw (λxs=>xs.setIfInBounds (if 0<=i then i.toNat else(i+ws.length).toNat) ux) ho
   exact BZ (j:=if 0<=i then i.toNat else(i+ws.length).toNat) ho hk hz rfl (K _ _ (h.turn (t:=p.s.toks) (lT hl) nofun ha (gU ..) ⟨ws.set _ ux,⟨by simpa using hz,m',by simpa using hm⟩,(hv.set hx).mono ⟨λU U e=>e,bY _⟩⟩) trivial)
  ·refine x3 (aM.1 e) λm hl e=>?_
   refine sL H' e λhk U U K=>?_
   refine w4 (h.gB hl ha) λus hd hv hlen=>?_
   refine wpAny_setItem_pairs (uC k t) (hd.dictOf (sub_self _)) (λh' hn hs=>?_) (by have :=hd.1.1;simp[cU];exact Z74 hk.1)
   refine w4 (r_ (x:=k) hx hlen hv hd.nd) λjF q1 q2 q3=>?_
   rw[q1]at hn
   obtain⟨o,es,ep,r1,r2⟩:=hn
   refine K _ _ (h.turn (vi hl) nofun ha hs ⟨jF,⟨⟨?_,hd.1.2⟩,o,r1,es,ep,r2⟩,q2.mono ⟨λU U e=>e,bY _⟩,q3⟩) trivial
   have :(stored ((m.1.map S).zip us) (S k) ux).length<=((m.1.map S).zip us).length+1:=by unfold stored;split<;>simp
   rw[q1]at this
   have h9:((m.1.map S).zip us).length<=m.1.length:=by rw[gT,aD];exact l_ ..
   exact aA this (aA (iz h9) hk.1)
 |_=>cases e
def jM (o i d:D):DS:=λst=>(d st).bind λx=>(o x.2).bind λy=>(i y.2).bind λz=>(wm z.2.H y.1 z.1 x.1).map λH'=>(.next,⟨H',z.2.loc⟩)
theorem Q4 {o i value:Expr} {sp pos:Pos} {Vk di d:D} (hv:bX fs value d) (ho:bX fs o Vk) (hi:bX fs i di) (hs:swapsWith value (some (.Subscript o i sp)) pos.line (fK fs)=pure false):kh fs (.Assign [.Subscript o i sp] value pos) (jM Vk di d):=by
 intro c p st h
 exact .bind λv st₁ e1=>.bind λa bq e2=>.bind λb dM e3=>.map λH' e4 U U hk=>wpAny_Assign_Subscript (hv h e1 λu c_ n₁ hu=>ho n₁.h e2 λua cG aw ha=>hi aw.h e3 λub jk bE hb=>
  GU ua bE.h (bE.vr ha) hb ((aw.tr bE).vr hu) e4 λU U fJ U=>hk _ _ (n₁.tr (aw.tr (bE.tr fJ))) rfl) ((c.zq _ _ _).trans hs)
theorem Mh {o i:V} {v:V} {u:Value} (u':Value) (h:SR c st p) (hu:VR p u o) (hi:VR p u' i) (e:gC st.H o i=some v):gw c p (getItem u u') st λq r=>VR q r v:=
 VP u' h hu hi e (λU U ⟨_,_,_,g⟩=>g) λU U ⟨_,_,_,g⟩=>g
def lr (f:V->V->Option V) (o i d:D):DS:=λst=>(o st).bind λx=>(i x.2).bind λy=>(gC y.2.H x.1 y.1).bind λw=>(d y.2).bind λz=>(f w z.1).bind λn=>(wm z.2.H x.1 y.1 n).map λH'=>(.next,⟨H',z.2.loc⟩)
theorem Ls {o i value:Expr} {sp pos:Pos} {op:Operator} {f:V->V->Option V} {Vk di d:D} (hf:pL op f) (ho:bX fs o Vk) (hi:bX fs i di) (hv:bX fs value d)
  (ha:∀ov iv new,augStore i ov iv new=(do holding [new,ov,iv] (setItem ov iv new);release [new,ov,iv] [];pure .next)):kh fs (.AugAssign (.Subscript o i sp) op value pos) (lr f Vk di d):=by
 intro c p st h
 exact .bind λa st₁ e1=>.bind λb bq e2=>.jn λw e3=>.bind λx dM e4=>.jn λn e5=>.map λH' e6 U U hk=>wpAny_AugAssign_Subscript_any (ho h e1 λua c_ n₁ Fp=>hi n₁.h e2 λub cG aw FD=>
  Mh ub aw.h (aw.vr Fp) FD e3 λuw jk bE huw=>hv bE.h e4 λuc iU fJ huc=>hf uw uc n fJ.h (fJ.vr huw) huc e5 λun O7 kf hun=>have n:=bE.tr (fJ.tr kf)
   GU ua kf.h ((aw.tr n).vr Fp) (n.vr FD) hun e6 λU U Pa U=>hk _ _ (n₁.tr (aw.tr (n.tr Pa))) rfl) ha
end
section
variable{fs:FS} {c:Cx fs} {p q:Pt} {st st':St} {H H':aj} {Kp:PH} {l:aq} {k:aJ} {E:aJ}
theorem Inv.drop {n:Nat} (I:Inv Kp H p) (nz:n≠0):Inv Kp (H.set n .none) p:={I with
 len:=by rw[List.length_set];exact I.len
 tb:=(jh nz).trans I.tb
 live:=λm o e=>by
  by_cases q:m=n
  ·subst q
   rw[vA]at e
   cases z:H[m]?<;>rw[z]at e<;>cases e
  ·rw[jh (Ne.symm q)]at e;exact I.live m o e}
theorem SR.freeze (h:SR c st p) {n:Nat} {a:Addr} {o:Obj} {ob:bJ} (e:st.H[n]?=some (some ob)) (nt:ob≠.tab) (ha:p.ρ[n]?=some a) (ho:p.s.heap.get? a=some o):Nx c p ⟨st.H.set n .none,st.loc⟩ (p.ad a o):=by
 refine v5 (h.inv.live n ob e) λb h1 h2 h3 h4=>?_
 cases aP (h1.symm.trans ha)
 refine .of h ⟨Le.ad h3,λb U nb=>PH.jO λ(w:b=a)=>nb (w▸bI ha),λU h=>.inl h,λU h=>h⟩ ((h.inv.drop λq=>nt (aP (aP ((q▸e).symm.trans h.inv.tb)))).made h3 ho λm ob' q z=>?_) λU U U e=>e
 have :m=n:=(qN (bO.1 z).1 h.inv.nd).mp (z.trans ha.symm)
 subst this
 rw[vA,e]at q
 cases q
def Vh (H:aj):V->Option (V×aj)
 | .ref n=>((dE H n).map λl=>(.lst l,H.set n .none)).or ((gB H n).map λx=>(.eK x.1 x.2,H.set n .none))
 |_=>none
theorem GB {P:Prop} {v:V} {w:V×aj} (u:Value) (h:SR c st p) (hu:VR p u v) (e:Vh st.H v=some w) (K:∀Φ,Nx c p ⟨w.2,st.loc⟩ ⟨Φ,p.ρ,p.s⟩->VR ⟨Φ,p.ρ,p.s⟩ u w.1->P):P:=by
 cases v with
 |ref n=>
  refine uj (P:=λu=>(∀Φ,Nx c p ⟨w.2,st.loc⟩ ⟨Φ,p.ρ,p.s⟩->VR ⟨Φ,p.ρ,p.s⟩ u w.1->P)->P) u hu (λa ha K=>?_) K
  rcases OE e with e|e
  ·obtain⟨l,q,rfl⟩:=aO.1 e
   exact(h.live q ha).elim λus ht=>ht.1.2.elim λm ho=>have n:=h.freeze (lT q) nofun ha ho
    K _ n (.lst ⟨ht.1.1,m,PH.cB _ _ _⟩ (n.y4 ht.2))
  ·obtain⟨l,q,rfl⟩:=aO.1 e
   exact(h.gB q ha).elim λus ht=>ht.1.2.elim λo ho=>have n:=h.freeze (vi q) nofun ha ho.1
    K _ n ⟨a,us,rfl,⟨ht.1.1,o,PH.cB _ _ _,ho.2⟩,n.y4 ht.2.1,ht.2.2⟩
 |_=>cases e
def Nm (d:D):D:=λst=>(d st).bind λx=>(Vh x.2.H x.1).map λy=>(y.1,⟨y.2,x.2.loc⟩)
theorem rFz {e:Expr} {d:D} (hd:bX fs e d):bX fs e (Nm d):=by
 intro c p st h
 exact .bind λa st₁ e1=>.map λw e2 U U hk=>hd h e1 λu q n hu=>GB u n.h hu e2 λΦ aw hv=>hk u ⟨Φ,q.ρ,q.s⟩ (n.tr aw) hv
def Ni (k:Nat) (st:St):Option St:=(st.loc[k]?).join.bind λv=>(Vh st.H v).map λy=>⟨y.2,st.loc.set k (some y.1)⟩
def tn (k:Nat) (d:DS):DS:=λst=>(d st).bind λx=>(Ni k x.2).map λst'=>(x.1,st')
theorem Ke.mono {f:Flow} {x:Fl} (h:Ke p f x) (le:Le p q):Ke q f x:=by
 cases x with
 |ret v=>exact h.imp λu k=>⟨k.1,k.2.mono le⟩
 |_=>exact h
theorem tu.GW {Φ:PH} {k:Nat} {v:V} {x:Str} (R:tu c st.loc ⟨Φ,p.ρ,p.s⟩) (le:Le p ⟨Φ,p.ρ,p.s⟩) {kd:NameKind} (hk:fs.names[k]?=some (x,kd)) (u:Value) (hu:VR ⟨Φ,p.ρ,p.s⟩ u v) (m:Str->mO) (hL:kd= .local ->m x=some u)
  (hC:kd= .cell\/kd= .free->∃a,c.env.cells.lookup x=some a/\p.s.heap.IsCell a (some u)) (hm:p.s.heap.Ns c.env.locals m) (hv:∀(k:Nat) x v,fs.names[k]?=some (x,.local)->st.loc[k]?=some (some v)->∃u,m x=some u/\LR c.env.cells x p u v):
  tu c (st.loc.set k (some v)) ⟨Φ,p.ρ,p.s⟩ where
 fr:=R.fr
 cells:=R.cells
 ns:=⟨m,hm,λj y w h1 h2=>o7 h2 (λej ev=>by subst ej;rw[hk]at h1;cases h1;exact⟨u,hL rfl,.inl (ev▸hu)⟩) λU h2=>(hv j y w h1 h2).imp λU z=>⟨z.1,z.2.mono le⟩⟩
 cv j y kd' w h1 h2 h3:=o7 h3 (λej ev=>by subst ej;rw[hk]at h1;cases h1;exact(hC h2).imp λa z=>⟨u,z.1,z.2,ev▸hu⟩) λU h3=>R.cv j y kd' w h1 h2 h3
def isVar (fs:FS) (k:Nat):Prop:=∃x kd,fs.names[k]?=some (x,kd)/\(kd= .local \/kd= .cell)
theorem abb {k:Nat} {x:Stmt} {d:DS} (hd:kh fs x d) (hk:isVar fs k):kh fs x (tn k d):=by
 intro c p st h
 refine .bind λfl st₁ e1=>.map λbq e2 U U K=>hd h e1 λf q n hf=>?_
 refine x3 (aM.1 e2) λv ev e2=>?_
 have ev:=vD.1 ev
 obtain⟨w,e3,rfl⟩:=aO.1 e2
 refine x4 (hk) λy kd hk U8=>?_
 refine x3 (n.h.env.ns) λm hm Ka=>?_
 rcases U8 with rfl|rfl
 ·refine x3 (Ka k y v hk ev) λu hu hr=>?_
  have hr:=hr.vr λe=>by rw[e]at e3;cases e3
  exact GB u n.h hr e3 λΦ aw hv=>K f ⟨Φ,q.ρ,q.s⟩ (n.tr ⟨aw.a,aw.h.inv,aw.h.env.GW aw.a.toLe hk u hv m (λU=>hu) (λk=>by rcases k with k|k<;>cases k) hm Ka⟩) (hf.mono aw.a.toLe)
 ·refine x5 (n.h.env.cv k y .cell v hk (.inl rfl) ev) λa u ha hc hr=>?_
  exact GB u n.h hr e3 λΦ aw hv=>K f ⟨Φ,q.ρ,q.s⟩ (n.tr ⟨aw.a,aw.h.inv,aw.h.env.GW aw.a.toLe hk u hv m (λk=>nomatch k) (λU=>⟨a,ha,hc⟩) hm Ka⟩) (hf.mono aw.a.toLe)
def nZ (p:Pt) (l:aq) (k:aJ):Prop:=∀⦃b h' t us n⦄,p.s.heap.get? b=none->h'.get? b=some (nR us n)->(∀a o,p.s.heap.get? a=some o->h'.get? a=some o)->bS p us l->us.length<=16777216->k (.ref b) {p.s with heap:=h',toks:=t}
theorem GO (h:SR c st p) (hk:∀a q,Nx c p st q->VR q a (.lst l)->k a q.s):nZ p l k:=λb h' t us n hb ho gr hv hz=>
 have n:=h.made (t:=t) gr hb ho
 hk _ _ n (.lst ⟨hz,_,PH.cB _ _ _⟩ (n.y4 hv))
def oM:=@List.getElem?_append_right
def ja:=@Nat.le_of_not_lt
def kO:=@Nat.le_antisymm
theorem Jc {β:Type} {l:List β} {x:β} {n:Nat} {y:β} {P:Prop} (h:(l++[x])[n]?=some y) (h1:l[n]?=some y->P) (h2:n=l.length->x=y->P):P:=by
 by_cases q:n<l.length
 ·rw[ly q]at h;exact h1 h
 ·rw[oM (ja q)]at h
  have :=Nat.lt_one_iff.1 (bO.1 h).1
  rw[this]at h
  exact h2 (kO (Nat.le_of_sub_eq_zero this) (ja q)) (aP h)
theorem tK {β:Type} {l:List β} {x:β} {n:Nat} (e:l.length=n):(l++[x])[n]?=some x:=by subst e;rw[oM (aF _),Nat.sub_self];rfl
noncomputable abbrev Pt.lv (p:Pt) (b:Addr):Pt:=⟨p.Φ,p.ρ++[b],p.s⟩
def qQ:=@List.prefix_append
theorem Le.lv {b:Addr}:Le p (p.lv b):=⟨λU U e=>e,qQ _ _⟩
def a7:=@List.mem_singleton
theorem lM.lv (x:lM p q) {b:Addr} (hb:p.s.heap.get? b=none):lM p (q.lv b):=⟨⟨x.le,x.pr.trans (qQ _ _)⟩,x.old,λa m=>(bF.1 m).elim (x.nw a) λm=>.inr (a7.1 m▸hb),x.ex⟩
def bh:=@List.not_mem_nil
def gy:=@List.nodup_nil
theorem Inv.lv {b:Addr} {o:bJ} (I:Inv Kp H p) (f:Kp b=none/\p.Φ b=none/\b∉p.ρ) (r:OR p b o):Inv Kp (H++[some o]) (p.lv b):={I with
 len:=by rw[bH,bH,I.len];rfl
 tb:=(ly (bO.1 I.tb).1).trans I.tb
 tr:=qE (qQ _ _) I.tr
 nd:=jc.2 ⟨I.nd,fZ.2 ⟨bh,gy⟩,λa ha d hd=>by cases a7.1 hd;exact λe=>f.2.2 (e▸ha)⟩
 lt:=λa m=>(bF.1 m).elim (I.lt a) λm=>a7.1 m▸r.there
 live:=λn ob e=>Jc e (λe=>(I.live n ob e).imp λa k=>⟨qE (qQ _ _) k.1,k.2.1,k.2.2.1,k.2.2.2.mono Le.lv λU e=>e⟩)
  λen eo=>⟨b,tK (I.len.trans en.symm),f.1,f.2.1,aP eo▸r.mono Le.lv λU e=>e⟩}
theorem Inv.free (I:Inv Kp H p) {b:Addr} (hb:p.s.heap.get? b=none):Kp b=none/\p.Φ b=none/\b∉p.ρ:=⟨none_of I.kp hb,none_of I.eC hb,I.not hb⟩
theorem SR.Ds {b:Addr} {o:bJ} {h':Heap} {t:Nat} (h:SR c st p) (hb:p.s.heap.get? b=none) (gr:∀a o,p.s.heap.get? a=some o->h'.get? a=some o) (r:OR (p.hp h' t) b o):Nx c p ⟨st.H++[some o],st.loc⟩ ((p.hp h' t).lv b)/\VR ((p.hp h' t).lv b) (.ref b) (.ref st.H.length):=
 ⟨.of h ((lM.grow gr).lv hb) ((h.inv.grow gr).lv (h.inv.free hb) r) λa o U=>gr a o,b,rfl,tK h.inv.len⟩
theorem xX (h:SR c st p) (hk:∀a q,Nx c p ⟨st.H++[some (.list l)],st.loc⟩ q->VR q a (.ref st.H.length)->k a q.s):nZ p l k:=λb h' t us n hb ho gr hv hz=>
 have n:=h.Ds (o:=.list l) (t:=t) hb gr ⟨us,⟨hz,_,ho⟩,hv.mono ⟨λU U e=>e,bY _⟩⟩
 hk _ _ n.1 n.2
theorem nZ.push {us:bw} (f:nZ p l k) (h:bS p us l) (hz:us.length<=16777216):k (.ref p.s.heap.objs.size) {p.s with heap:=p.s.heap.push {cls:=.type "list",data:=.seq us.toArray}}:=f (t:=p.s.toks) (dT p) (bj _ rfl) (pushKeep _ _) h hz
noncomputable def iS (d:DL):D:=λst=>(d st).bind λx=>if x.1.length<=16777216 then some (.ref x.2.H.length,⟨x.2.H++[some (.list x.1)],x.2.loc⟩)else none
theorem Xg {es:List Expr} {pos:Pos} {d:DL} (hd:pE fs es d):bX fs (.List es pos) (iS d):=by
 intro c p st h
 exact .bind λa st₁ e1=>.iff λhz=>.yes λU U hk=>wpAny_List_spliced (hd pos h e1 λus q n hu=>have hz:=aA (iG (bS.length hu)) hz;⟨hz,(xX n.h λU U aw=>hk _ _ (n.tr aw)).push hu hz⟩)
noncomputable def qs:D:=λst=>some (.ref st.H.length,⟨st.H++[some (.dict [] [])],st.loc⟩)
theorem Inv.uQ (I:Inv Kp H p) {a:Addr} (h:p.s.heap.get? a=none):a≠sysModules:=λe=>I.sm.elim λo ho=>nomatch h.symm.trans ((ak _ e).trans (I.kp _ _ ho))
theorem tT {Φ:PH} {a:Addr} (e:Φ a=some {cls:=.type "dict",data:=.dict #[]}) (n:a≠sysModules):uz Φ a []:=⟨⟨bN _,n⟩,_,e,#[],0,⟨rfl,rfl,rfl⟩,rfl,λU he=>(Array.not_mem_empty _ he).elim,.nil,gy⟩
theorem Xo {pos:Pos}:bX fs (.Dict [] [] pos) qs:=by
 intro c p st h
 exact .yes λU U hk=>wpAny_Dict_empty (have n:=h.Ds (o:=.dict [] []) (t:=p.s.toks) (dT p) (pushKeep _ _) ⟨[],tT (bj _ rfl) (h.inv.uQ (dT p)),.nil,rfl⟩
  hk _ _ n.1 n.2)
noncomputable def lj:D:=λst=>some (.eK [] [],st)
theorem Xq {pos:Pos}:bX fs (.Dict [] [] pos) lj:=by
 intro c p st h
 exact .yes λU U hk=>wpAny_Dict_empty (hk _ _ (h.made (t:=p.s.toks) (pushKeep _ _) (dT p) (bj _ rfl)) ⟨_,[],rfl,tT (PH.cB _ _ _) (h.inv.uQ (dT p)),.nil,rfl⟩)
def yl (op:Operator) (f:aj->V->V->Option aq):Prop:=∀⦃fs:FS⦄ ⦃c:Cx fs⦄ ⦃p:Pt⦄ ⦃st:St⦄ ⦃a b:V⦄ (u u':Value) (l:aq),SR c st p->VR p u a->VR p u' b->f st.H a b=some l->∀⦃k E⦄,nZ p l k->wpAny cW c.A (binaryOp op u u') k E p.s
noncomputable def jr (f:aj->V->V->Option aq) (a b:D):D:=λst=>(a st).bind λx=>(b x.2).bind λy=>(f y.2.H x.1 y.1).map λv=>(.lst v,y.2)
noncomputable def w6 (f:aj->V->V->Option aq) (a b:D):D:=λst=>(a st).bind λx=>(b x.2).bind λy=>(f y.2.H x.1 y.1).map λv=>(.ref y.2.H.length,⟨y.2.H++[some (.list v)],y.2.loc⟩)
theorem NF {op x y pos f dx dy} (ho:yl op f) (hx:bX fs x dx) (hy:bX fs y dy):bX fs (.BinOp x op y pos) (jr f dx dy):=by
 intro c p st h
 exact .bind λa st₁ e1=>.bind λb bq e2=>.map λv e3 U U hk=>wpAny_BinOp (hx h e1 λu c_ n₁ hu=>hy n₁.h e2 λu' cG aw rC=>ho u u' v aw.h (aw.vr hu) rC e3 (GO aw.h λr jk bE=>hk r jk (n₁.tr (aw.tr bE))))
theorem ND {op x y pos f dx dy} (ho:yl op f) (hx:bX fs x dx) (hy:bX fs y dy):bX fs (.BinOp x op y pos) (w6 f dx dy):=by
 intro c p st h
 exact .bind λa st₁ e1=>.bind λb bq e2=>.map λv e3 U U hk=>wpAny_BinOp (hx h e1 λu c_ n₁ hu=>hy n₁.h e2 λu' cG aw rC=>ho u u' v aw.h (aw.vr hu) rC e3 (xX aw.h λr jk bE=>hk r jk (n₁.tr (aw.tr bE))))
def lG (H:aj) (a b:V):Option aq:=(b8 H a).bind λx=>(b8 H b).bind λy=>if x.length+y.length<=16777216 then some (x++y)else none
theorem Dn:yl .Add lG:=λU U p U U U u u' l h hu rC e U U hk=>by
 refine x3 (aM.1 e) λx ex e=>?_
 refine x3 (aM.1 e) λy ey e=>?_
 refine kA u h hu ex λa us ha hv=>kA u' h rC ey λb ws hb hw=>sL (P1:=λl=>nZ p l _->_) l e (λhz hk=>?_) hk
 rw[<-bS.length hv,<-bS.length hw]at hz
 obtain⟨n,ho⟩:=ha.2
 obtain⟨m,OJ⟩:=hb.2
 refine concat_meets ⟨_,ho,rfl⟩ ⟨_,OJ,rfl⟩ noFill_list_add seq_list_add F.slot_list_add F.entry_list_add (F.args_list_add_2 _ _) (list_addW a b us.toArray ws.toArray n m .none .none #[] #[] (by simp[cU];exact hz)) ⟨ho,OJ,?_⟩
 have :=hk.push (us:=us++ws) (hv.append hw) (by rw[bH];exact hz)
 simpa using this
theorem wD {us:bw} (h:bS p us l) (n:Nat):bS p (List.replicate n us).flatten (List.replicate n l).flatten:=by
 induction n with
 |zero=>exact .nil
 |succ n ih=>exact h.append ih
def mulL (H:aj) (a b:V):Option aq:=(mE b).bind λi=>(b8 H a).bind λx=>if-(2^63)<=i/\i<2^63/\x.length*i.toNat<=16777216 then some (List.replicate i.toNat x).flatten else none
theorem Dm:yl .Mult mulL:=λO O p O O O u u' l h hu rC e O O hk=>Fw u' e rC λi t e=>by
 refine x3 (aM.1 e) λx ex e=>?_
 refine kA u h hu ex λa us ha hv=>sL (P1:=λl=>nZ p l _->_) l e (λhz hk=>?_) hk
 rw[<-bS.length hv]at hz
 obtain⟨n,ho⟩:=ha.2
 refine wpAny_binaryOp_repeat_ref (T:="list") (U:="int") (by decide) ⟨_,ho,rfl⟩ (λs'=>typeIs_int s' i t) noFill_list_mul F.fills_int_mul F.slot_int_rmul repeat_list F.slot_int_index.lookup
  (gL F.slot_int_rmul (typeIs_int p.s i t) F.entry_int_rmul (F.args_int_rmul_2 _ _) (lm_int_rmul_list_any i t a us.toArray n .none #[])
   ⟨ho,rfl,⟨_,ho,rfl⟩,gL F.slot_list_mul ⟨_,ho,rfl⟩ F.entry_list_mul (F.args_list_mul_2 _ _)
    (AutoListH.list___mul___list_int_3 a us.toArray n i t (by simp[Builtin.List.listFitsIndex];exact⟨hz.1,hz.2.1⟩) (by simp only[j4];exact Nat.not_lt.2 (aA hz.2.2 (by decide))) (by simp[Builtin.List.listTooLong,sizeLine];exact Z71 hz.2.2)) ⟨ho,?_⟩⟩)
 rw[listMul_foldl_if]
 exact hk.push (wD hv i.toNat) (by simp[Nat.mul_comm];rw[Nat.mul_comm];exact hz.2.2)
end
section
variable{fs:FS}
section
variable{A:Around} {s:Shared} {E:aJ}
noncomputable def nN (n:Nat) (lo:Option Int):Nat:=lo.elim 0 (clipAt n)
noncomputable def t_ (n:Nat) (hi:Option Int):Nat:=hi.elim n (clipAt n)
def sl {β:Type} (l:List β) (lo hi:Option Int):List β:=(l.drop (nN l.length lo)).take (t_ l.length hi-nN l.length lo)
theorem MN (n:Nat) (i:Int):clipAt n i<=n:=by
 have :=clipAt_cast n i
 split at this<;>(first|exact Z75 this|exact Z76 this)
theorem Yq (n:Nat) (hi:Option Int):t_ n hi<=n:=by cases hi<;>simp[t_,MN]
theorem yU (n:Nat) (lo hi:Option Int):Builtin.Slice.sliceAdjust lo hi 1 (n:Int)=(((nN n lo:Nat):Int),((t_ n hi:Nat):Int)):=by
 have key:∀v:Int,(if v<0 then max (v+(n:Int)) 0 else min v (n:Int))=(clipAt n v:Nat):=by
  intro v
  rw[clipAt_cast]
  split<;>(first|exact Z77 ‹_›|exact Z78 ‹_›)
 unfold Builtin.Slice.sliceAdjust nN t_
 cases lo<;>cases hi<;>simp[key]
def fa:=@if_true
theorem yO (a b:Nat):Builtin.Slice.slicePlaces (a:Int) (b:Int) 1=b-a:=by
 unfold Builtin.Slice.slicePlaces
 simp only[show(1:Int)>0 by exact Z79,fa,Int.ediv_one]
 split<;>(first|exact Z80|exact Z81 ‹_›)
theorem rj {prog:Program} {w:World} {u:Value} {p:Option Int} {Q:Option Int->Shared->Prop} (hp:IsPart u p) (h:Q p s):wpAny (model prog w) A (Builtin.Slice.slicePartIndex u) Q E s:=by
 cases hp with
 |none=>exact slicePart_none h
 |int i t=>exact slicePart_int h
def gn:=@wpAny_field
theorem kZ {prog:Program} {w:World} {sa:Addr} {n:Nat} {vl vu:Value} {lo hi:Option Int} {Q:Int×Int×Nat->Shared->Prop} (hs:s.heap.IsSliceOf sa vl vu .none) (pl:IsPart vl lo) (pu:IsPart vu hi)
  (h:Q ((nN n lo:Nat),1,t_ n hi-nN n lo) s):wpAny (model prog w) A (Builtin.Slice.sliceApplied (.ref sa) (pure (n:Int))) Q E s:=by
 refine w4 (id hs) λos Cr ON U9=>?_
 unfold Builtin.Slice.sliceApplied Builtin.Slice.sliceFields
 refine ai (ai (gn Cr U9 (x:=vl) rfl (ai (gn Cr U9 (x:=vu) rfl (ai (gn Cr U9 (x:=.none) rfl (av ?_)))))))
 refine ai (slicePart_none ?_)
 show wpAny _ _ (if((1:Int)==0)=true then _ else _) _ _ s
 rw[af (by decide)]
 refine ai (rj pl (ai (rj pu (ai (av ?_)))))
 show wpAny _ _ (match Builtin.Slice.sliceAdjust lo hi 1 (n:Int)with|(lo,hi)=>pure (lo,(1:Int),Builtin.Slice.slicePlaces lo hi 1)) _ _ s
 rw[yU]
 show wpAny _ _ (pure (((nN n lo:Nat):Int),(1:Int),Builtin.Slice.slicePlaces (nN n lo:Nat) (t_ n hi:Nat) 1)) _ _ s
 rw[yO]
 exact av h
theorem Lx (xs:dY) (a k:Nat):((List.range k).filterMap λ(i:Nat)=>xs[((a:Int)+(i:Int)*1).toNat]?).toArray=((xs.toList.drop a).take k).toArray:=by
 have :=pick_run xs a k
 rw[List.filterMap_map]at this
 rw[<-this]
 have e2:(λ(i:Nat)=>xs[((a:Int)+(i:Int)*1).toNat]?)=((λx=>xs[x]?)∘λx=>a+x):=by
  funext i
  show xs[((a:Int)+(i:Int)*1).toNat]?=xs[a+i]?
  congr 1
  exact Z82
 rw[e2]
theorem pG {prog:Program} {w:World} {t sa:Addr} {items:dY} {vl vu:Value} {lo hi:Option Int} {Q:aJ} (ht:IsTup s.heap t items) (hs:s.heap.IsSliceOf sa vl vu .none) (pl:IsPart vl lo) (pu:IsPart vu hi)
  (hn:nN items.size lo=0/\t_ items.size hi-nN items.size lo=items.size)
  (h:Q (.ref t) s):wpAny (model prog w) A (getItem (.ref t) (.ref sa)) Q E s:=by
 refine w4 (id hs) λos Cr ON U9=>?_
 have hTs:s.TypeIs (.ref sa) "slice":=⟨os,Cr,ON⟩
 unfold getItem
 try with_reducible refine ef ?_
 refine ai (wpAny_sequenceKey ht.typeIs (by decide) ?_)
 refine ai (m6 (name:=Str.ofString "__getitem__") ht.typeIs slot_tuple_getitem
  (j0 slot_tuple_getitem ht.typeIs entry_tuple_getitem ?_ (args_tuple_getitem _ _)))
 show wpAny _ _ (Builtin.Tuple.tupleItemsOf (.ref t)>>=_) _ _ s
 refine ai (tupleItemsOf_ ht ?_)
 refine ai (wpAny_typeOf hTs ?_)
 rw[ag (by decide)]
 refine ai (kZ hs pl pu ?_)
 have abG:((((nN items.size lo:Nat):Int)==0&&(1:Int)==1&&(t_ items.size hi-nN items.size lo)==items.size)=true):=by
  simp only[bp,beq_iff_eq]
  exact⟨⟨by exact Z83 hn.1,trivial⟩,hn.2⟩
 show wpAny _ _ (if(((nN items.size lo:Nat):Int)==0&&(1:Int)==1&&(t_ items.size hi-nN items.size lo)==items.size)=true then _ else _) _ _ s
 rw[ag abG]
 refine ai ?_
 unfold Builtin.Tuple.tupleIsExact
 refine ai (wpAny_typeOf ht.typeIs ?_)
 refine av ?_
 rw[ag (by decide)]
 refine ai (jw ?_)
 first
  |exact av ⟨_,rfl,av h⟩
  |exact av (av ⟨_,rfl,av h⟩)
  |exact ai (av (av ⟨_,rfl,av h⟩))
  |exact av (ai (av ⟨_,rfl,av h⟩))
  |exact av (av (av ⟨_,rfl,av h⟩))
def jf:=@Array.length_toList
def mj:=@wpAny_newObj_type
theorem qc {prog:Program} {w:World} {t sa:Addr} {items:dY} {vl vu:Value} {lo hi:Option Int} {Q:aJ} (ht:IsTup s.heap t items) (hs:s.heap.IsSliceOf sa vl vu .none) (pl:IsPart vl lo) (pu:IsPart vu hi)
  (hn:¬(nN items.size lo=0/\t_ items.size hi-nN items.size lo=items.size))
  (h:Q (.ref s.heap.objs.size) {s with heap:=s.heap.push {cls:=.type "tuple",data:=.seq (sl items.toList lo hi).toArray}}) (yY:items.size<=sizeLine):wpAny (model prog w) A (getItem (.ref t) (.ref sa)) Q E s:=by
 have NS:sizeOk (.seq (sl items.toList lo hi).toArray):=by
  show(sl items.toList lo hi).toArray.size<=sizeLine
  unfold sl
  rw[j4,i_,i9,jf]
  exact Z84 yY
 refine w4 (id hs) λos Cr ON U9=>?_
 have hTs:s.TypeIs (.ref sa) "slice":=⟨os,Cr,ON⟩
 unfold getItem
 try with_reducible refine ef ?_
 refine ai (wpAny_sequenceKey ht.typeIs (by decide) ?_)
 refine ai (m6 (name:=Str.ofString "__getitem__") ht.typeIs slot_tuple_getitem
  (j0 slot_tuple_getitem ht.typeIs entry_tuple_getitem ?_ (args_tuple_getitem _ _)))
 show wpAny _ _ (Builtin.Tuple.tupleItemsOf (.ref t)>>=_) _ _ s
 refine ai (tupleItemsOf_ ht ?_)
 refine ai (wpAny_typeOf hTs ?_)
 rw[ag (by decide)]
 refine ai (kZ hs pl pu ?_)
 have U5:¬((((nN items.size lo:Nat):Int)==0&&(1:Int)==1&&(t_ items.size hi-nN items.size lo)==items.size)=true):=by
  simp only[bp,beq_iff_eq]
  intro q
  exact hn ⟨by exact Z85 q.1.1,q.2⟩
 show wpAny _ _ (if(((nN items.size lo:Nat):Int)==0&&(1:Int)==1&&(t_ items.size hi-nN items.size lo)==items.size)=true then _ else _) _ _ s
 rw[af U5,Lx]
 have e:((items.toList.drop (nN items.size lo)).take (t_ items.size hi-nN items.size lo)).toArray=(sl items.toList lo hi).toArray:=by unfold sl;rw[jf]
 rw[e]
 first
  |exact ai (m:=Builtin.Tuple.tupleExact _) (mj (av ⟨_,rfl,av h⟩) NS)
  |exact ai (m:=Builtin.Tuple.tupleExact _) (mj (ai (av (av ⟨_,rfl,av h⟩))) NS)
end
section
variable{c:Cx fs} {p q:Pt} {st st':St}
noncomputable abbrev DO:=St->Option (Option Int×St)
def F7 (fs:FS) (e:Option Expr) (d:DO):Prop:=∀⦃c:Cx fs⦄ ⦃p:Pt⦄ ⦃st:St⦄,SR c st p->Ok (d st) λv st'=>gw c p (evalPart e c.env) st' λU u=>IsPart u v
noncomputable def ti:DO:=λst=>some (.none,st)
def dP (d:D):DO:=λst=>(d st).bind λx=>(mE x.1).map λi=>(some i,x.2)
def qU:=@wpAny_evalPart_none
theorem rP0:F7 fs .none ti:=by
 intro c p st h;exact .yes λU U hk=>qU (hk _ _ h.same .none)
theorem rP {e:Expr} {d:D} (hd:bX fs e d):F7 fs (some e) (dP d):=by
 intro c p st h
 exact .bind λa st₁ e1=>.map λi e2 U U hk=>wpAny_evalPart_some (hd h e1 λu q n hu=>pO u (show VR q u (.int i)from jN e2▸hu) λt=>hk _ _ n (.int _ _))
def kr (H:aj) (o:V) (lo hi:Option Int):Option V:=match o with
 | .str x=>some (.str (sl x lo hi))
 | .tup x=>if nN x.length lo=0/\t_ x.length hi-nN x.length lo=x.length then some (.tup x)else some (.tup (sl x lo hi))
 |o=>(b8 H o).map λx=>.lst (sl x lo hi)
theorem Dk {H:aj} {x:ar} {lo hi:Option Int}:kr H (.str x) lo hi=some (.str (sl x lo hi)):=rfl
theorem nk {β:Type} (l:List β) (lo hi:Option Int):(sl l lo hi).length<=l.length:=by unfold sl;rw[i_,i9];exact aA (Nat.min_le_right ..) (Nat.sub_le ..)
theorem GR {us:bw} {l:aq} (h:bS p us l) (lo hi:Option Int):bS p (sl us lo hi) (sl l lo hi):=by
 unfold sl;rw[bS.length h];exact(h.drop _).take _
theorem lB (x:Str) (l u:Option (Int×Tok)):slicePicked x l u .none=(List.range (t_ x.length (u.map (·.1))-nN x.length (l.map (·.1)))).map (nN x.length (l.map (·.1))+·):=by
 have e:slicePicked x l u .none=sliceRange (nN x.length (l.map (·.1)):Nat) (t_ x.length (u.map (·.1)):Nat) 1:=by
  unfold slicePicked Builtin.Str.strSliceIndices nN t_
  cases l<;>cases u<;>simp[clipAt_cast]
 rw[e,sliceRange_one]
set_option tactic.hygienic true in
theorem wA {x:ar} {t:Tok} {l u:Option (Int×Tok)} {k:aJ} (h:SR c st p) (hz:x.length<=16777216) (hk:∀r q,Nx c p st q->VR q r (.str (sl x (l.map (·.1)) (u.map (·.1))))->k r q.s):(sliceMade (S x) t l u .none).post k p.s:=by
 unfold sliceMade
 have Yk:((slicePicked (S x) l u .none).filterMap ((S x).cps[·]?)).toArray=(sl x (l.map (·.1)) (u.map (·.1))).toArray:=by
  rw[lB,pick_run,ij];rfl
 have hlen:(slicePicked (S x) l u .none).length=t_ x.length (u.map (·.1))-nN x.length (l.map (·.1)):=by rw[lB,ij];simp
 split
 ·rename_i hc
  simp only[Option.map_none,Option.getD_none,beq_self_eq_true,Bool.true_and,beq_iff_eq]at hc
  rw[hlen,ij]at hc
  have hh:=Yq x.length (u.map (·.1))
  refine hk _ _ h.same ?_
  have e:sl x (l.map (·.1)) (u.map (·.1))=x:=by
   unfold sl
   by_cases h0:x.length=0
   ·rw[oN h0,List.drop_nil,List.take_nil]
   ·have h1:nN x.length (l.map (·.1))=0:=by exact Z86 hc hh h0
    rw[h1,List.drop_zero,dR (by exact Z87 hc)]
  rw[e]
  exact .str hz
 ·rw[Yk]
  have :=aA (nk x (l.map (·.1)) (u.map (·.1))) hz
  exact⟨this,hk _ _ (h.tok _) (.str this)⟩
theorem vV {u:Value} {p:Option Int} (h:IsPart u p):∃q:Option (Int×Tok),u=partValue q/\q.map (·.1)=p:=by
 cases h with
 |none=>exact⟨.none,rfl,rfl⟩
 |int i t=>exact⟨some (i,t),rfl,rfl⟩
def cS (o:D) (lo hi:DO):D:=λst=>(o st).bind λx=>(lo x.2).bind λy=>(hi y.2).bind λz=>(kr z.2.H x.1 y.1 z.1).map λv=>(v,z.2)
theorem Io {e:Expr} {lo hi:Option Expr} {sp:Pos} {a w:V} {p1 p2:Option Int} {sa:Addr} {ul uh:Value} (u:Value) (h:SR c st p) (hu:VR p u a) (hs:p.s.heap.IsSliceOf sa ul uh .none) (hl:IsPart ul p1) (hh:IsPart uh p2) (e4:kr st.H a p1 p2=some w):
  gw c p (subscriptTail e (.Slice lo hi .none sp) u (.ref sa)) st λq r=>VR q r w:=by
 intro k E hk
 have lists:((b8 st.H a).map λx=>V.lst (sl x p1 p2))=some w->wpAny cW c.A (subscriptTail e (.Slice lo hi .none sp) u (.ref sa)) k E p.s:=λe4=>by
  obtain⟨x,hx,rfl⟩:=aO.1 e4
  refine kA u h hu hx λb us ht hv=>?_
  have L:=ht.isList (sub_self _)
  refine tail_any L.typeIs slot_list_getitem.lookup (wpAny_getItem_list_slice L hs hl hh .none (by simp) ?_ (by rw[cU];exact ht.1)) rfl
  have e:slicePick us.toArray p1 p2 .none=(sl us p1 p2).toArray:=by rw[slicePick_plain];simp[sl,nN,t_]
  rw[e]
  exact(GO h hk).push (GR hv p1 p2) (aA (nk ..) ht.1)
 cases a with
 |str x=>
  cases e4
  obtain⟨q1,rfl,rfl⟩:=vV hl
  obtain⟨q2,rfl,rfl⟩:=vV hh
  exact qi u hu λhz t=>tail_any (fc _ _ t) F.slot_str_getitem.lookup (wpAny_getItem_str_slice (l:=q1) (u:=q2) (st:=.none) hs rfl (wA h hz hk)) rfl
 |tup x=>
  refine qh (P:=λu=>VR p u (.tup x)->wpAny cW c.A (subscriptTail e (.Slice lo hi .none sp) u (.ref sa)) k E p.s) u hu (λb us ht hv hu=>?_) hu
  have T:=ht.uV h.inv.eC
  have hlen:=bS.length hv
  replace e4:(if _ then some _ else some _)=some w:=e4
  by_cases hn:nN x.length p1=0/\t_ x.length p2-nN x.length p1=x.length
  ·rw[ag hn]at e4;cases e4
   rw[<-hlen]at hn
   exact tail_any T.typeIs slot_tuple_getitem.lookup (pG T hs hl hh hn (hk _ _ h.same hu)) rfl
  ·rw[af hn]at e4;cases e4
   rw[<-hlen]at hn
   exact tail_any T.typeIs slot_tuple_getitem.lookup (qc T hs hl hh hn (n8 h (GR hv p1 p2) (aA (nk ..) (hlen▸ht.1)) hk).2 (by rw[cU];exact ht.1)) rfl
 |_=>exact lists e4
theorem Q6 {e:Expr} {lo hi:Option Expr} {sp pos:Pos} {d:D} {dlo dhi:DO} (hd:bX fs e d) (hlo:F7 fs lo dlo) (hhi:F7 fs hi dhi):bX fs (.Subscript e (.Slice lo hi .none sp) pos) (cS d dlo dhi):=by
 intro c p st h
 exact .bind λa st₁ e1=>.bind λp1 bq e2=>.bind λp2 dM e3=>.map λw e4 U U hk=>Subscript_ (hd h e1 λu c_ n₁ hu=>wpAny_Slice (hlo n₁.h e2 λul cG aw hl=>hhi aw.h e3 λuh jk bE hh=>qU
  (have fJ:Nx c jk dM (jk.hp (jk.s.heap.push {cls:=.type "slice",data:=.fields #[ul,uh,.none]}) jk.s.toks):=bE.h.grow (pushKeep _ _)
  Io u fJ.h ((aw.tr (bE.tr fJ)).vr hu) (Heap.IsSliceOf.new jk.s.heap ul uh .none) hl hh e4 λU U kf=>hk _ _ (n₁.tr (aw.tr (bE.tr (fJ.tr kf)))))))
end
end
open PySem.Builtin PySem.Builtin.Str
section
variable{fs:FS} {c:Cx fs} {p q:Pt} {st st':St}
def Kn (H:aj):V->Option Nat
 | .str x=>some x.length
 | .tup x=>some x.length
 |v=>(b8 H v).map List.length
theorem R7 {H:aj} {n:Nat}:Kn H (.ref n)=(dE H n).map List.length:=rfl
def iN (H:aj) (vs:aq):Option V:=(lQ vs).bind λv=>(Kn H v).map λ(n:Nat)=>.int n
theorem XM:mP (.builtin "len") iN:=λU c p st U us v h gc e=>jS us e gc λu x hu e K E hk=>by
 obtain⟨n,en,rfl⟩:=aO.1 e
 have key:(b8 st.H x).map List.length=some n->wpAny cW c.A (call (.builtin "len") [u]) K E p.s:=λen=>by
  obtain⟨l,el,rfl⟩:=aO.1 en
  exact kA u h hu el λa ws ht hv=>PyProof.Rows.len_list (ht.isList (sub_self _)) (by have :=ht.1;simp;exact Uz this) (hk _ _ (h.tok _) ⟨p.s.toks+1,by simp[bS.length hv]⟩)
 cases x with
 |str x=>cases en;exact qi u hu λhz t=>P.len_str (by rw[ij];exact NL hz) (hk _ _ (h.tok _) .int)
 |tup x=>cases en;exact qh u hu λa ws ht hv=>len_tuple (ht.uV h.inv.eC) (by have :=ht.1;simp;exact Uz this) (hk _ _ (h.tok _) ⟨p.s.toks+1,by simp[bS.length hv]⟩)
 |_=>exact key en
def A9 (_:aj) (vs:aq):Option V:=(lQ vs).bind λv=>(mE v).bind λi=>if 0<=i/\i<=1114111 then some (.str [i.toNat])else none
theorem XY:mP (.builtin "chr") A9:=λU U U U U us v h gc e=>jS us e gc λu x hu e=>Fw u e hu λi t e=>sL v e λhz U U hk=>chr_of_range hz.1 hz.2 (hk _ _ (h.tok _) (.str (x:=[_]) (ay rfl)))
noncomputable def oneOf:ar->Option Nat
 |[c]=>some c
 |_=>none
theorem IC {x:ar} {c:Nat} (e:oneOf x=some c):x=[c]:=by
 match x,e with
 |[c],e=>exact ak (λx=>[x]) (aP e)
def FZ (_:aj) (vs:aq):Option V:=(lQ vs).bind λv=>(nP v).bind λx=>(oneOf x).map λ(c:Nat)=>.int c
theorem XC:mP (.builtin "ord") FZ:=λU U U U U us v h gc e=>jS us e gc λu x hu e=>y7 u e hu λx U t e U U hk=>by
 obtain⟨i,q,rfl⟩:=aO.1 e
 rw[IC q]
 exact ord_of_one rfl (hk _ _ (h.tok _) .int)
def lg:aq->Option (List Int)
 |[]=>some []
 |v::l=>(mE v).bind λi=>(lg l).map (i::·)
theorem vm {vs:aq}:∀{us:bw} {is:List Int},bS p us vs->lg vs=some is->∃xs:List (Int×Tok),us=xs.map (λp=>.int p.1 p.2)/\xs.map (·.1)=is:=by
 induction vs with
 |nil=>exact λh e=>⟨[],h,aP e⟩
 |cons v vs ih=>
  refine λ{us is} h e=>gX us h λu us h1 h2=>Fw (P:=λu=>∃xs:List (Int×Tok),u::us=xs.map (λp=>.int p.1 p.2)/\xs.map (·.1)=is) u e h1 λi t e=>?_
  obtain⟨is',e1,rfl⟩:=aO.1 e
  obtain⟨xs,rfl,e2⟩:=ih h2 e1
  exact⟨(i,t)::xs,rfl,ak (i::·) e2⟩
theorem ints_list {u:Value} {x:V} {l:aq} {is:List Int} {P:Prop} (h:SR c st p) (hu:VR p u x) (e:b8 st.H x=some l) (ei:lg l=some is) (k:∀a xs,u= .ref a->p.s.heap.IsList a (intItems (List.toArray xs))->xs.map (·.1)=is->P):P:=
 kA (PP:=λu'=>u=u'->P) u h hu e (λa ws ht hv eu=>(vm hv ei).elim λxs w=>k a xs eu (by have :=ht.isList (sub_self _);rw[w.1]at this;simpa[intItems]using this) w.2) rfl
def A8 (H:aj) (vs:aq):Option V:=(lQ vs).bind λv=>(b8 H v).bind λx=>(lg x).map λis=>.int is.sum
theorem XA:mP (.builtin "sum") A8:=λU c U U U us v h gc e=>jS us e gc λu x hu e=>by
 refine x3 (aM.1 e) λl e1 e=>?_
 obtain⟨is,e2,rfl⟩:=aO.1 e
 refine ints_list h hu e1 e2 λa xs eu hl ei U U hk=>?_
 subst eu ei
 refine sum_intListG c.r.handled hl λh' tk t' gr=>hk _ _ (h.grow gr) ⟨t',?_⟩
 rw[preSum_eq,dR (by simp)]
noncomputable def isTup (H:aj):V->Option Bool
 | .tup _=>some true
 | .int _=>some false
 |_=>none
def isBool (H:aj) (v:V):Option Bool:=(mE v).map λU=>false
def PV (T:String) (f:aj->V->Option Bool):Prop:=∀⦃fs:FS⦄ ⦃c:Cx fs⦄ ⦃p:Pt⦄ ⦃st:St⦄ ⦃a:V⦄ (u:Value) (b:Bool),SR c st p->VR p u a->f st.H a=some b->gw c p (call (.builtin "isinstance") [u,.type T]) st λU r=>r= .bool b
theorem vU:typeOf (.type "tuple")=pure (.type "type"):=by rfl
theorem EY:typeOf (.type "bool")=pure (.type "type"):=by rfl
theorem sub_tt:isSubtype (.type "tuple") (.type "tuple")=pure true:=by rw[isSubtype_type];kernel_rfl
theorem Qj:isSubtype (.type "int") (.type "tuple")=pure false:=by rw[isSubtype_type];kernel_rfl
theorem Qk:isSubtype (.type "int") (.type "bool")=pure false:=by rw[isSubtype_type];kernel_rfl
theorem LH:PV "tuple" isTup:=λU U U U a u b h hu e U U hk=>by
 cases a with
 |tup x=>cases e;exact qh u hu λb us ht hv=>call_isinstance (isinstance_true vU sub_tt) ⟨(ht.uV h.inv.eC).typeIs,hk _ _ h.same rfl⟩
 |int i=>cases e;exact pO u hu λt=>call_isinstance (isinstance_false_int (by decide) vU Qj) (hk _ _ (h.tok _) rfl)
 |_=>cases e
theorem IE:PV "bool" isBool:=λU U U U a u b h hu e=>aIM u b e hu λi t U U hk=>call_isinstance (isinstance_false_int (by decide) EY Qk) (hk _ _ (h.tok _) rfl)
noncomputable def OV (f:aj->V->Option Bool) (d:D):D:=λst=>(d st).bind λx=>(f x.2.H x.1).map λv=>(.bool v,x.2)
theorem rIs {x y:Str} {np tp pos:Pos} {T:String} {e:Expr} {f:aj->V->Option Bool} {d:D} (hb:G.bi x=some (.builtin "isinstance")) (ht:G.bi y=some (.type T)) (hf:PV T f) (hs:bX fs e d) (hx:d6 fs x) (hy:d6 fs y)
  (he:kq e [.Name y tp]):bX fs (.Call (.Name x np) [e,.Name y tp] [] pos) (OV f d):=by
 intro c p st h
 refine .bind λa st₁ e1=>.map λw e2 U U hk=>jB (sR h hx hb (oz (first:=[]) ?_ (he _) rfl))
 rw[he]
 exact iI (hs h e1 λu q n hu=>iI (sR n.h hy ht (jy (hf u w n.h hu e2 λU U aw=>hk _ _ (n.tr aw)))))
end
section
variable{fs:FS} {c:Cx fs} {p q:Pt} {st st':St} {H:aj}
def qm:aq->Option aG
 |[]=>some []
 |v::l=>(nP v).bind λx=>(qm l).map (x::·)
theorem zW {vs:aq}:∀{us:bw} {xs:aG},bS p us vs->qm vs=some xs->StrsAre us (xs.map S):=by
 induction vs with
 |nil=>exact λ{us xs} h e=>aP e▸tj us h .nil
 |cons v vs ih=>exact λ{us xs} h e=>gX us h λu us h1 h2=>y7 (P:=λu=>StrsAre (u::us) (xs.map S)) u e h1 λx U t e=>(aO.1 e).elim λys w=>w.2▸.cons _ t (ih h2 w.1)
noncomputable def cL (sep:ar):aG->ar
 |[]=>[]
 |[x]=>x
 |x::l=>x++sep++cL sep l
theorem join_1 {sep x:ar}:cL sep [x]=x:=rfl
theorem uU {sep x y:ar} {l:aG}:cL sep (x::y::l)=x++sep++cL sep (y::l):=rfl
theorem Si (sep:ar) (xs:aG):Txt.join (S sep) (xs.map S)=S (cL sep xs):=by
 show glued (S sep) (xs.map S)=_
 rw[StrLaws.glued_eq_join]
 induction xs with
 |nil=>rfl
 |cons x l ih=>cases l with
  |nil=>rfl
  |cons y l=>
   show S x++S sep++Str.join (S sep) ((y::l).map S)=_
   rw[ih,vL,vL];rfl
def n9:=@List.sum_cons
theorem xo (sep:ar):∀xs:aG,(cL sep xs).length<=(xs.map List.length).sum+xs.length*sep.length
 |[]=>bN _
 |[x]=>by rw[join_1];simp
 |x::y::l=>by
  have :=xo sep (y::l)
  simp only[uU,bH,bo,n9,bQ,Nat.succ_mul]at this |-
  exact Z91 this
def JL (f:ar->aq->Option V) (H:aj) (o:V) (vs:aq):Option (V×aj):=(nP o).bind λx=>(f x vs).map λv=>(v,H)
theorem Bg {id:String} {f:ar->aq->Option V} (hg:∀⦃fs:FS⦄ ⦃c:Cx fs⦄ ⦃p:Pt⦄ ⦃st:St⦄ (x:ar) (t:Tok) (us:bw) (vs:aq) (v:V),SR c st p->x.length<=16777216->bS p us vs->f x vs=some v->gw c p (call (.builtin id) (.str (S x) t::us)) st λq r=>VR q r v):fA id (JL f):=
 λU c p st U vs u us w h hu gc e=>y7 u e hu λx hz t e=>(aO.1 e).elim λv q=>q.2▸hg x t us vs v h hz gc q.1
def Yd (H:aj) (sep:ar) (vs:aq):Option V:=(lQ vs).bind λv=>(b8 H v).bind λl=>(qm l).bind λxs=>if(xs.map List.length).sum+xs.length*sep.length<=16777216 then some (.str (cL sep xs))else none
def k_ (H:aj) (o:V) (vs:aq):Option (V×aj):=JL (Yd H) H o vs
theorem RD:fA "str.join" k_:=λU c p st U vs u us w h hu gc e=>y7 u e hu λsep hz t e=>(aO.1 e).elim λv q=>q.2▸jS us q.1 gc λux x hx e=>by
 refine x3 (aM.1 e) λl el e=>?_
 refine x3 (aM.1 e) λxs ex e=>?_
 refine kA ux h hx el λa ws ht hv=>sL v e λhz U U hk=>join_list (ht.isList (sub_self _)) (by simpa using zW hv ex) ?_ λt' k=>?_
 ·rw[br,aD,ij]
  exact hz
 ·rw[Si]
  exact hk _ _ (h.tok _) (.str (aA (xo sep xs) hz))
def UW (x:ar):ar:=(Txt.upper (S x)).cps.toList
def Pd (x:ar):ar:=(Txt.lower (S x)).cps.toList
noncomputable def Gk (n:Nat) (f:ar->ar) (x:ar):aq->Option V
 |[]=>if x.length<=n then some (.str (f x))else none
 |_=>none
def uR:=JL (Gk 5592405 UW)
def Bm:=JL (Gk 5592405 Pd)
theorem z7 {id:String} {g:Str->Str} (hg:∀x:Str,(g x).length<=3*x.length) (hm:∀{A:Around} {E:aJ} {s:Shared} {x:Str} {t:Tok} {Q:aJ},x.length<=5592405->(Made.str (g x)).post Q s->wpAny cW A (call (.builtin id) [.str x t]) Q E s):
  fA id (JL (Gk 5592405 λx=>(g (S x)).cps.toList)):=Bg λU U p U x t us vs v h U gc e=>by
 cases vs with
 |cons=>cases e
 |nil=>exact tj us gc (sL v e λhz U U hk=>have z:(g (S x)).length<=16777216:=aA (hg _) (aA (mv 3 hz) (by decide))
   hm hz ⟨z,hk _ _ (h.tok _) (.str (x:=(g (S x)).cps.toList) z)⟩)
theorem LC:fA "str.upper" uR:=z7 (g:=Txt.upper) len_upper λhl q=>call_gives F.slot_str_upper (fc _ _ _) F.entry_str_upper (F.args_str_upper_1 _) (gives_str_upper _ _ (fit_upper hl)) q
theorem LG:fA "str.lower" Bm:=z7 (g:=Txt.lower) len_lower λhl q=>call_gives F.slot_str_lower (fc _ _ _) F.entry_str_lower (F.args_str_lower_1 _) (gives_str_lower _ _ (fit_lower hl)) q
noncomputable def o6 (x y:ar):Bool:=decide (y.length<=x.length)&&(x.take y.length==y)
noncomputable def uI (x y:ar):Bool:=decide (y.length<=x.length)&&(x.drop (x.length-y.length)==y)
theorem Dh (x y:ar) (i:Nat):subAt (S x) (S y) i=((x.drop i).take y.length==y):=by
 rw[StrLaws.subAt_eq];simp[S,PySem.Str.length]
def Kh (f:ar->ar->V) (x:ar) (vs:aq):Option V:=(lQ vs).bind λv=>(nP v).map λy=>f x y
theorem yr {id:String} {f:ar->ar->V} (hg:∀⦃fs:FS⦄ ⦃c:Cx fs⦄ ⦃p:Pt⦄ ⦃st:St⦄ (x y:ar) (t t':Tok),SR c st p->gw c p (call (.builtin id) [.str (S x) t,.str (S y) t']) st λq r=>VR q r (f x y)):fA id (JL (Kh f)):=
 Bg λU U U U x t us vs v h U gc e=>jS us e gc λuy y hy e=>aSM uy v e hy λy U t'=>hg x y t t' h
def yu:=JL (Kh λx y=>.bool (o6 x y))
theorem ID:fA "str.startswith" yu:=yr λU U U U x y t t' h U U hk=>call_gives F.slot_str_startswith (fc _ _ _) F.entry_str_startswith (F.args_str_startswith_2 _ _) (gives_str_startswith (S x) (S y) t t') (hk _ _ h.same (by
 show Value.bool _=Value.bool _
 rw[Dh,ij,ij];simp[o6]))
def CJ:=JL (Kh λx y=>.bool (uI x y))
theorem RQ:fA "str.endswith" CJ:=yr λU U U U x y t t' h U U hk=>call_gives F.slot_str_endswith (fc _ _ _) F.entry_str_endswith (F.args_str_endswith_2 _ _) (gives_str_endswith (S x) (S y) t t') (hk _ _ h.same (by
 show Value.bool _=Value.bool _
 rw[Dh,ij,ij]
 unfold uI
 by_cases h:y.length<=x.length
 ·rw[dR (by rw[i9];exact Z92)];simp
 ·simp[h]))
def jR (x y:ar) (i j:Int):Int:=match occurrences (S x) (S y) (fromIndex x.length i) (min (fromIndex x.length j) x.length) 1 with
 |k::_=>(k:Int)
 |[]=>-1
theorem o5 (x y:Str) (i j:Int) (t u v v':Tok):Gives («str.find» ⟨[.str x t,.str y u,.int i v,.int j v'],[]⟩)
  (.int (match occurrences x y (fromIndex x.length i) (min (fromIndex x.length j) x.length) 1 with|k::_=>(k:Int)|[]=>-1)):=by
 show Gives (match occurrences x y (fromIndex x.length i) (min (fromIndex x.length j) x.length) 1 with|k::_=>retInt k|[]=>(do rule "str.find.not-found";retInt (-1))) _
 cases occurrences x y (fromIndex x.length i) (min (fromIndex x.length j) x.length) 1 with
 |nil=>exact .rule (.of_eq rfl)
 |cons k _=>exact .of_eq rfl
def ab3 (x:ar):aq->Option V
 |[v,a,b]=>(nP v).bind λy=>(mE a).bind λi=>(mE b).map λj=>.int (jR x y i j)
 |_=>none
def CH:=JL ab3
theorem RM:fA "str.find" CH:=Bg λU U p U x t us vs v h U gc e=>by
 match vs,e with
 |[y,a,b],e=>
  exact gX us gc λuy us hy gc=>gX us gc λua us ha gc=>qt us gc λub hb=>y7 uy e hy λy U t' e=>Fw ua e ha λi t1 e=>aIM ub v e hb λj t2 U U hk=>
   call_gives F.slot_str_find (fc _ _ _) F.entry_str_find (F.args_str_find_4 _ _ _ _) (o5 (S x) (S y) i j t t' t1 t2) (hk _ _ (h.tok _) ⟨p.s.toks,by rw[ij];rfl⟩)
def kC (x y:ar):Nat:=(occurrences (S x) (S y) 0 x.length (x.length+1)).length
def rW:=JL (Kh λx y=>.int (kC x y))
theorem LU:fA "str.count" rW:=yr λU U p U x y t t' h U U hk=>call_gives F.slot_str_count (fc _ _ _) F.entry_str_count (F.args_str_count_2 _ _) (gives_str_count (S x) (S y) t t') (hk _ _ (h.tok _) ⟨p.s.toks,by rw[ij];rfl⟩)
def DX (id:String) (f:aj->V->aq->Option aq):Prop:=∀⦃fs:FS⦄ ⦃c:Cx fs⦄ ⦃p:Pt⦄ ⦃st:St⦄ ⦃v:V⦄ ⦃vs:aq⦄ (u:Value) (us:bw) (l:aq),SR c st p->VR p u v->bS p us vs->f st.H v vs=some l->∀⦃k E⦄,nZ p l k->wpAny cW c.A (call (.builtin id) (u::us)) k E p.s
noncomputable def u3 (kd:aj->V->Bool) (f:aj->V->aq->Option aq) (o:D) (ds:DL):D:=λst=>(o st).bind λx=>if kd x.2.H x.1 then
 (ds x.2).bind λy=>(f y.2.H x.1 y.1).map λv=>(.ref y.2.H.length,⟨y.2.H++[some (.list v)],y.2.loc⟩)else none
theorem Q9 {T id:String} {name:Str} {o e:Expr} {es:List Expr} {apos pos:Pos} {kd:aj->V->Bool} {f:aj->V->aq->Option aq} {d:D} {ds:DL} (m:uW T name id) (ht:zl T kd) (hf:DX id f) (hd:bX fs o d) (hs:pE fs (e::es) ds) (ha:qu o name apos pos)
  (A5:∀env,((backTo pos (starEach (e::es) env)).all (λx=>!x.1)&&(backToKw pos (keywordEach [] env)).all (λx=>x.1.isSome)
   &&decide ((e::es).length+([]:List Keyword).length+(if([]:List Keyword).isEmpty then 0 else 1)<30))=true) (hp:cK pos e es):bX fs (.Call (.Attribute o name apos) (e::es) [] pos) (u3 kd f d ds):=by
 intro c p st h
 exact .bind λa st₁ e1=>.iff λz=>.bind λvs bq e2=>.map λw e3 U U hk=>oE (ha.1 _) (A5 _) ha.2 m.1.1 m.1.2 m.2 (hd h e1 λu q n hu=>have t:=ht u n.h hu z
  ⟨t.1,t.2,oz (hs pos n.h e2 λus cG aw gc=>hf u us w aw.h (aw.vr hu) gc e3 (xX aw.h λU U bE=>hk _ _ (n.tr (aw.tr bE)))) (hp.1 _) (hp.2 _)⟩)
def jK (x y:ar):aG:=(Txt.split (S x) (S y)).map λz=>z.cps.toList
theorem yG (xs:List Str):∀(t:Tok),(∀x∈xs,x.length<=16777216)->bS p (strsFrom t xs) (xs.map λz=>.str z.cps.toList):=by
 induction xs with
 |nil=>exact λU U=>.nil
 |cons x xs ih=>exact λt h=>.one (.str (x:=x.cps.toList) (h x cV)) (ih (t+1) λy hy=>h y (b9 _ hy))
def uS (H:aj) (o:V) (vs:aq):Option aq:=(nP o).bind λx=>(lQ vs).bind λv=>(nP v).bind λy=>if y.isEmpty=false/\(jK x y).length<=16777216 then some ((jK x y).map .str)else none
theorem Iu:DX "str.split" uS:=λU c p st v vs u us l h hu gc e=>y7 u e hu λx hxz t e=>jS us e gc λux w hx e=>y7 ux e hx λy U t' e=>sL l e λhz k E f=>by
 have one:jK x y=[x]->k (.ref p.s.heap.objs.size) {p.s with heap:=p.s.heap.push {cls:=.type "list",data:=.seq #[.str (S x) t]}}:=λe=>by
  rw[e]at f
  exact f.push (us:=[.str (S x) t]) (.one (.str hxz) .nil) (ay rfl)
 by_cases h1:(decide ((S x).length<(S y).length)||decide (Builtin.Str.strKind (S x)<Builtin.Str.strKind (S y)))=true
 ·exact gL F.slot_str_split (fc _ _ _) F.entry_str_split (F.args_str_split_2 _ _) (meets_str_split_cannot_occur (S x) (S y) t t' h1) (one (by unfold jK Txt.split;rw[ag h1];rfl))
 have h1':=me.2 h1
 have hyl:((S y).length==0)=false:=by rw[ij];cases y<;>first|exact Bool.noConfusion hz.1|rfl
 by_cases h2:(occurrences (S x) (S y) 0 (S x).length ((S x).length+1)).isEmpty=true
 ·exact gL F.slot_str_split (fc _ _ _) F.entry_str_split (F.args_str_split_2 _ _) (meets_str_split_not_found (S x) (S y) t t' h1' hyl h2) (one (by unfold jK Txt.split;rw[af h1,ag h2];rfl))
 ·have e:Txt.split (S x) (S y)=partsBetween (S x) (occurrences (S x) (S y) 0 (S x).length ((S x).length+1)) (S y).length:=by unfold Txt.split;rw[af h1,af h2]
  have el:(jK x y).length=(partsBetween (S x) (occurrences (S x) (S y) 0 (S x).length ((S x).length+1)) (S y).length).length:=by unfold jK;rw[e,aD]
  refine gL F.slot_str_split (fc _ _ _) F.entry_str_split (F.args_str_split_2 _ _) (meets_str_split_sep (S x) (S y) t t' h1' hyl (by simpa using h2) (by rw[cU];exact hxz) (by rw[cU,<-el];exact hz.2)) ?_
  refine f (n:=0) (dT p) (bj _ rfl) (pushKeep _ _) ?_ (by rw[strsFrom_length,<-el];exact hz.2)
  unfold jK
  rw[e,br]
  exact yG _ _ λp hp=>by
   simp only[partsBetween,aY]at hp
   obtain⟨⟨i,j⟩,_,rfl⟩:=hp
   exact aA (strSub_length_le ..) hxz
def D9 (a b:V):Option V:=(nP a).bind λx=>(mE b).bind λn=>if-(2^63)<=n/\n<2^63/\x.length*n.toNat<=16777216 then some (.str (List.replicate n.toNat x).flatten)else none
theorem E0 (x:Array Nat) (k:Nat) (a:Array Nat):(List.replicate k x).foldl (·++·) a=a++((List.replicate k x.toList).flatten).toArray:=by
 induction k generalizing a with
 |zero=>simp
 |succ k ih=>rw[List.replicate_succ,List.foldl_cons,ih,List.replicate_succ,qM,<-List.append_toArray,Array.append_assoc]
def oi:=@Bool.or_eq_true
set_option tactic.hygienic true in
theorem Rx:g7 .Mult D9:=λU U U U U U u u' v h hu hb e=>y7 u e hu λx hx t e=>Fw u' e hb λn t' e=>sL v e λhz U U hk=>by
 have hlen:(List.replicate n.toNat x).flatten.length=x.length*n.toNat:=by simp[Nat.mul_comm]
 refine P.mul_str ?_ ?_ ?_ ?_
 ·rw[decide_eq_false (by exact Z93 hz.1),decide_eq_false (by exact Z94 hz.2.1)];rfl
 ·intro h1 h2
  rw[ij]at h2 |-
  simp only[Bool.or_eq_false_iff,bu,ne_eq]at h2
  have h3:0<n:=Int.lt_of_lt_of_le Int.one_pos (jv.1 h1)
  have :((x.length:Int))<=(2^63-1)/n:=by
   rw[Int.le_ediv_iff_mul_le h3]
   have :(x.length:Int)*n=((x.length*n.toNat:Nat):Int):=by push_cast;rw[Int.toNat_of_nonneg (lW h3)]
   rw[this];exact Int.le_sub_one_of_lt (Uz hz.2.2)
  exact Z95 this
 ·intro _ _;rw[ij];exact short24 hz.2.2
 ·split
  ·rename_i h1
   rw[show n.toNat=0 by exact Z96 h1]at hk
   exact⟨by decide,hk _ _ (h.tok _) (.str (x:=[]) (bN _))⟩
  ·rename_i h1
   split
   ·rename_i h2
    have hr:(List.replicate n.toNat x).flatten=x:=by
     simp only[oi,beq_iff_eq,ij]at h2
     rcases h2 with h2|h2
     ·subst h2;simp
     ·rw[oN h2];simp
    rw[hr]at hk
    exact hk _ _ h.same (.str hx)
   ·have e:(⟨(List.replicate n.toNat (S x).cps).foldl (·++·) #[]⟩:Str)=S (List.replicate n.toNat x).flatten:=by
     apply Str.ext';rw[E0];simp[S]
    rw[e]
    have z:=hlen▸hz.2.2
    exact⟨by rw[ij,cU];exact z,hk _ _ (h.tok _) (.str z)⟩
def uv:=OD PE Ef
def h_:=OD y_ D9
theorem X0:g7 .Add uv:=O_ RX RW
theorem NG:g7 .Mult h_:=O_ Ry Rx
theorem RG:pL .Add uv:=XN LO LN
def M_ (x y:ar):Bool:=!(occurrences (S x) (S y) 0 x.length 1).isEmpty
def inS (f:Bool->Bool) (_:aj) (a b:V):Option Bool:=(nP a).bind λy=>(nP b).map λx=>f (M_ x y)
def inD (f:Bool->Bool) (H:aj) (a b:V):Option Bool:=(nP a).bind λy=>(rS H b).bind λp=>if p.1.length=p.2.length then some (f (cz p.1 p.2 y).isSome)else none
def UB:=AQ (inS id) (inD id)
def rV:=AQ (inS not) (inD not)
theorem ri {x:ar}:∀{ks:aG} {us:bw} {l:aq},us.length=l.length->cz ks l x=none->valueAt ((ks.map S).zip us) (S x)=none:=by
 intro ks
 induction ks with
 |nil=>exact λU U=>rfl
 |cons k ks ih=>
  intro us l h e
  cases us with
  |nil=>rfl
  |cons u us=>cases l with
   |nil=>cases h
   |cons w l=>
    replace e:(if k=x then some w else cz ks l x)=none:=e
    show(((S k,u)::(ks.map S).zip us).find? _).map _=_
    by_cases q:k=x
    ·rw[ag q]at e;cases e
    ·rw[af q]at e
     rw[kL,decide_eq_false λe=>q (C' e)]
     exact ih (iH h) e
theorem in_dict {ks:aG} {us:bw} {l:aq} {y:ar} (hv:bS p us l):(valueAt ((ks.map S).zip us) (S y)).isSome=(cz ks l y).isSome:=by
 cases e:cz ks l y with
 |none=>rw[ri (bS.length hv) e];rfl
 |some w=>exact(sA hv e).elim λu k=>k.1▸rfl
theorem Hn {op:CmpOp} {f:Bool->Bool} (hg:∀{A:Around} {E:aJ} {s:Shared} {x y:ar} {t t':Tok} {Q:aJ},Q (.bool (f (M_ x y))) s->wpAny cW A (compareOp op (.str (S y) t) (.str (S x) t')) Q E s):dG op (inS f):=
 λU U U U U U u u' v h hu hb e=>y7 u e hu λy U t e=>aSM u' v e hb λx U t' U U hk=>hg (hk _ _ h.same rfl)
theorem Ho {op:CmpOp} {f:Bool->Bool} (hg:∀{A:Around} {E:aJ} {s:Shared} {d:Addr} {y:ar} {t:Tok} {d5:List (Str×Value)} {Q:aJ},uz s.heap.get? d d5->(∀tk,Q (.bool (f (valueAt d5 (S y)).isSome)) {s with toks:=tk})->wpAny cW A (compareOp op (.str (S y) t) (.ref d)) Q E s):dG op (inD f):=
 λU U U U U U u u' v h hu hb e=>y7 u e hu λy U t e=>(aM.1 e).elim λx w=>xU u' h hb w.1 λd us r=>sL v w.2 λU U U hk=>hg r.1 λtk=>hk _ _ (h.tok tk) (ak (λb=>Value.bool (f b)) (in_dict r.2.1))
theorem okIn:dG .In UB:=pI (Hn λq=>P.in_str q) (Ho λh q=>wpAny_in_of (uC _ _) (bu.2 h.1.2) (h.dictOf (sub_self _)).mapOf (q _))
theorem LF:dG .NotIn rV:=pI (Hn λq=>P.notIn_str q) (Ho λh q=>wpAny_notIn_of (uC _ _) (bu.2 h.1.2) (h.dictOf (sub_self _)).mapOf (q _))
end
set_option genSizeOf false
set_option genInjectivity false
section
variable{fs:FS} {c:Cx fs} {p q r jU:Pt} {st st' st₁:St} {H H':aj} {Kp OX:PH} {X:Addr->Prop}
open Classical in

noncomputable def PH.plus (Kp:PH) (h:Heap) (X:Addr->Prop):PH:=λa=>if X a then h.get? a else Kp a
theorem PH.tL {h:Heap} {a:Addr} (hx:X a):(Kp.plus h X) a=h.get? a:=ag hx
theorem PH.kE {h:Heap} {a:Addr} (hx:¬X a):(Kp.plus h X) a=Kp a:=af hx
theorem PH.o9 {h:Heap} (hs:Sub Kp h):Kp.le (Kp.plus h X):=λa o e=>by
 by_cases x:X a
 ·exact(PH.tL x).trans (hs a o e)
 ·exact(PH.kE x).trans e
theorem Sub.plus {h:Heap} (hs:Sub Kp h):Sub (Kp.plus h X) h:=λa o e=>by
 by_cases x:X a
 ·exact(PH.tL x).symm.trans e
 ·exact hs a o ((PH.kE x).symm.trans e)
theorem le_none (le:Kp.le OX) {a:Addr} (e:OX a=none):Kp a=none:=lz.2 λo q=>nomatch e.symm.trans (le a o q)
theorem Inv.plus (I:Inv Kp H p) (hX:∀a,X a->a∉p.ρ):Inv (Kp.plus p.s.heap X) H p:={I with
 kp:=I.kp.plus
 live:=λn o e=>(I.live n o e).imp λa k=>⟨k.1,(PH.kE λx=>hX a x (bI k.1)).trans k.2.1,k.2.2⟩
 sm:=I.sm.imp λo e=>PH.o9 I.kp _ _ e}
theorem Inv.minus (I:Inv OX H p) (le:Kp.le OX) (sm:∃o,Kp sysModules=some o):Inv Kp H p:={I with
 kp:=I.kp.le le
 live:=λn o e=>(I.live n o e).imp λa k=>⟨k.1,le_none le k.2.1,k.2.2⟩
 sm:=sm}
structure Own (c:Cx fs) (p:Pt) (b:Addr):Prop where
 kp:c.Kp b=none
 eC:p.Φ b=none
 tF:b∉p.ρ
 yZ:¬Cv c.env b
 ex:g6 p b
theorem Own.tI {b:Addr} (o:Own c p b) (x:lM p q):Own c q b:=⟨o.kp,(x.old b o.ex o.tF).trans o.eC,x.out o.ex o.tF,o.yZ,x.ex b o.ex⟩
theorem SR.Bh (h:SR c st p) {b:Addr} (n:p.s.heap.get? b=none):¬Cv c.env b:=λf=>(h.env.there f).not n
theorem Own.new {b:Addr} (h:SR c st p) (n:p.s.heap.get? b=none) (x:Nx c p st' q) (e:q.Φ=p.Φ) (e':q.ρ=p.ρ) (t:g6 q b):Own c q b:=
 have f:=h.inv.free n
 ⟨f.1,e▸f.2.1,e'▸f.2.2,h.Bh n,t⟩
def Cx.plus (c:Cx fs) (p:Pt) (X:Addr->Prop) (hs:Sub c.Kp p.s.heap) (hX:∀b,X b->¬Cv c.env b):Cx fs:={c with
 Kp:=c.Kp.plus p.s.heap X
 g:=c.g.mono (PH.o9 hs)
 kl:=(PH.kE λx=>hX _ x (.inl rfl)).trans c.kl
 wr:=λx hx a e=>(PH.kE λk=>hX _ k (.inr ⟨x,e⟩)).trans (c.wr x hx a e)}
abbrev SR.cx (h:SR c st p) (own:∀b,X b->Own c p b):Cx fs:=c.plus p X h.inv.kp λb x=>(own b x).yZ
theorem SR.plus (h:SR c st p) (own:∀b,X b->Own c p b):SR (h.cx own) st p:=⟨h.inv.plus λa x=>(own a x).tF,h.env.fr,h.env.cells,h.env.ns,h.env.cv⟩
theorem SR.minus (h:SR c st p) (own:∀b,X b->Own c p b) {q:Pt} (k:SR (h.cx own) st' q):SR c st' q:=⟨k.inv.minus (PH.o9 h.inv.kp) h.inv.sm,k.env.fr,k.env.cells,k.env.ns,k.env.cv⟩
theorem SR.held (h:SR c st p) (own:∀b,X b->Own c p b) {q:Pt} (k:SR (h.cx own) st' q) {b:Addr} (x:X b) {o:Obj} (e:p.s.heap.get? b=some o):q.s.heap.get? b=some o:=k.inv.kp b o ((PH.tL x).trans e)
theorem SR.own {h':Heap} {t:Nat} (h:SR c st p) (own:∀b,X b->Own c p b) (hk:∀a o,¬X a->p.s.heap.get? a=some o->h'.get? a=some o) (hX:∀b,X b->∃o,h'.get? b=some o):Nx c p st (p.hp h' t):=
 .of (q:=p.hp h' t) h ⟨⟨λU U e=>e,bY _⟩,λU U U=>rfl,λU m=>.inl m,λa e=>by
   by_cases x:X a
   ·exact hX a x
   ·exact e.imp λo e=>hk a o x e⟩
  (h.inv.to (λU U e=>e) rfl (λa o z e=>hk a o (λx=>z.elim (· (own a x).kp) λz=>z.elim (· (own a x).eC) (own a x).tF) e) (λU U e=>.inl e) h.inv.so) λa o f e=>hk a o (λx=>(own a x).yZ f) e
def ItV (p:Pt) (h h':Heap) (u:Value) (v:V):Prop:=VR p u v\/∃T us l o,u= .ref T/\v= .tup l/\h.get? T=none/\h'.get? T=some o/\WM o us/\us.length<=16777216/\bS p us l
def aeH (A:Around) (dA:Expr) (I:Addr) (wr:List Addr) (T:Nat->Heap->Prop) (i:Nat) (u:Value) (s:Shared):Prop:=
 ∀(Q:Unit->Shared->Prop) (E:aJ),(∀h',T (i+1) h'->(∀b o,b∉wr->s.heap.get? b=some o->h'.get? b=some o)->Q () {s with heap:=h'})->wpAny cW A (letOwnedTupleGo dA (.ref I) u) Q E s
structure OY (dA:Expr) (I:Addr) (wr:List Addr) (vs:aq) (p:Pt) (T:Nat->Heap->Prop):Prop where
 frame:∀i h h',T i h->(∀b∈wr,∀o,h.get? b=some o->h'.get? b=some o)->Sub p.Φ h->Sub p.Φ h'->T i h'
 live:∀i h,T i h->∀b∈wr,∃o,h.get? b=some o
 item:∀{A:Around} (i:Nat) (v:V) (s:Shared) (Q:mO->Shared->Prop) (E:aJ),A.handled=none->vs[i]?=some v->T i s.heap->Sub p.Φ s.heap->
  (∀u h' tk,ItV p s.heap h' u v->(∀b o,b∉wr->s.heap.get? b=some o->h'.get? b=some o)->aeH A dA I wr T i u {s with heap:=h',toks:=tk}->Q (some u) {s with heap:=h',toks:=tk})->wpAny cW A (pyNext (.ref I)) Q E s
 done:∀{A:Around} (s:Shared) (Q:mO->Shared->Prop) (E:aJ),A.handled=none->T vs.length s.heap->Sub p.Φ s.heap->
  (∀h' tk,(∀b o,b∉wr->s.heap.get? b=some o->h'.get? b=some o)->Q none {s with heap:=h',toks:=tk})->wpAny cW A (pyNext (.ref I)) Q E s
 self:∀{A:Around} i (s:Shared) (Q:aJ) (E:aJ),A.handled=none->T i s.heap->Q (.ref I) s->wpAny cW A (pyIter (.ref I)) Q E s
noncomputable abbrev DI:=St->Option (aq×St)
structure M1 (c:Cx fs) (p:Pt) (st':St) (dA:Expr) (vs:aq) (I:Addr) (wr:List Addr) (T:Nat->Heap->Prop) (q:Pt):Prop where
 nx:Nx c p st' q
 J7:OY dA I wr vs q T
 J2:T 0 q.s.heap
 own:∀b∈wr,Own c q b
 new:∀b∈wr,p.s.heap.get? b=none
def F9 (c:Cx fs) (p:Pt) (st':St) (dA:Expr) (vs:aq) (k:aJ):Prop:=∀I wr T q,M1 c p st' dA vs I wr T q->k (.ref I) q.s
def k8 (fs:FS) (dA e:Expr) (d:DI):Prop:=∀⦃c:Cx fs⦄ ⦃p:Pt⦄ ⦃st:St⦄,SR c st p->Ok (d st) λvs st'=>∀⦃k:aJ⦄ ⦃E:aJ⦄,F9 c p st' dA vs k->
 wpAny cW c.A (eval e c.env) (λxv b7=>wpAny cW c.A (pyIter xv) k E b7) E p.s
noncomputable def iT (da:DA) (db:DS):aq->DS
 |[]=>λst=>some (.next,st)
 |v::vs=>λst=>(da v st).bind λst₁=>(db st₁).bind λx=>match x.1 with
  | .next=>iT da db vs x.2
  | .cont=>iT da db vs x.2
  | .brk=>some (.next,x.2)
  | .ret u=>some (.ret u,x.2)
def gJ (di:DI) (da:DA) (db:DS):DS:=λst=>(di st).bind λx=>iT da db x.1 x.2
section
variable{dA:Expr} {I:Addr} {wr:List Addr} {vs:aq} {T:Nat->Heap->Prop} {i:Nat} {v:V} {Q:mO->Shared->Prop} {E:aJ}
theorem xf (it:OY dA I wr vs jU T) (hv:vs[i]?=some v) (h:SR c st p) (le:Le jU p) (own:∀b∈wr,Own c p b) (iP:T i p.s.heap)
  (hQ:∀u b7,(∀⦃K:Unit->Shared->Prop⦄ ⦃E:aJ⦄,(∀q,Nx c p st q->VR q u v->T (i+1) q.s.heap->(∀b o,b∉wr->p.s.heap.get? b=some o->q.s.heap.get? b=some o)->K () q.s)->wpAny cW c.A (letOwnedTupleGo dA (.ref I) u) K E b7)->Q (some u) b7):wpAny cW c.A (pyNext (.ref I)) Q E p.s:=by
 refine it.item i v p.s Q E c.r.handled hv iP (h.inv.eC.le le.le) λu h' tk hu hk go=>hQ _ _ λK E' kk=>go _ _ λh'' rH rz=>?_
 have k2:∀b o,b∉wr->p.s.heap.get? b=some o->h''.get? b=some o:=λb o hb e=>rz b o hb (hk b o hb e)
 have n:Nx c p st (p.hp h'' tk):=h.own (X:=(·∈wr)) own k2 (it.live _ _ rH)
 rcases hu with hu|⟨T',us,l,o,rfl,rfl,hT,UH,hO,hz,qg⟩
 ·exact kk _ n (n.vr (hu.mono le)) rH k2
 ·have hT2:h''.get? T'=some o:=rz T' o (λm=>(own T' m).ex.not hT) UH
  have hp:=h.non hT
  have x:lM p ((p.hp h'' tk).ad T' o):=n.a.made hT hp
  refine kk _ (.of h x (n.h.inv.made hp hT2 λn ob U w=>h.inv.not hT (bI w)) λa o f e=>k2 a o (λm=>(own a m).yZ f) e) (.tup ⟨hz,o,PH.cB _ _ _,hO⟩ (x.y4 (qg.mono le))) rH k2
theorem xh (it:OY dA I wr vs jU T) (h:SR c st p) (le:Le jU p) (own:∀b∈wr,Own c p b) (iP:T vs.length p.s.heap)
  (hQ:∀h' tk,(∀b o,b∉wr->p.s.heap.get? b=some o->h'.get? b=some o)->Q none {p.s with heap:=h',toks:=tk}):wpAny cW c.A (pyNext (.ref I)) Q E p.s:=it.done p.s Q E c.r.handled iP (h.inv.eC.le le.le) hQ
theorem Nx.fin (x:Nx c p st q) {h':Heap} {t:Nat} (own:∀b∈wr,Own c q b) (hk:∀b o,b∉wr->q.s.heap.get? b=some o->h'.get? b=some o) (hw:∀b∈wr,p.s.heap.get? b=none):Nx c p st (q.hp h' t):=
 ⟨⟨⟨x.a.le,x.a.pr⟩,x.a.old,x.a.nw,λa ha=>(x.a.ex a ha).imp λo e=>hk a o (λm=>ha.not (hw a m)) e⟩,
  x.h.inv.to (λU U e=>e) rfl (λa o z e=>hk a o (λm=>z.elim (· (own a m).kp) λz=>z.elim (· (own a m).eC) (own a m).tF) e) (λU U e=>.inl e) x.h.inv.so,x.h.env.to ⟨λU U e=>e,bY _⟩ x.h.env.fr λa o f e=>hk a o (λm=>(own a m).yZ f) e⟩
end
end
section
variable{fs:FS} {c:Cx fs} {p q r jU:Pt} {st st' st₁:St}
theorem drop_cons {β:Type} {vs:List β} {i:Nat} {v:β} {r:List β} (e:vs.drop i=v::r):vs[i]?=some v/\vs.drop (i+1)=r/\i<vs.length:=by
 have h1:vs[i]?=some v:=by rw[<-List.head?_drop,e];rfl
 refine⟨h1,?_,(bO.1 h1).1⟩
 rw[<-List.tail_drop,e];rfl
theorem drop_nil {β:Type} {vs:List β} {i:Nat} (hi:i<=vs.length) (e:vs.drop i=[]):vs.length=i:=by
 have :=ak List.length e;rw[i9]at this;exact kO (Nat.le_of_sub_eq_zero this) hi
structure LS (c:Cx fs) (p jU:Pt) (wr:List Addr) (vs:aq) (T:Nat->Heap->Prop) (da:DA) (db:DS) (r:Fl×St) (n i:Nat) (q:Pt) (st:St):Prop where
 n:vs.length-i=n
 le:i<=vs.length
 nx:Nx c p st q
 up:Le jU q
 at_:T i q.s.heap
 d:iT da db (vs.drop i) st=some r
 own:∀b∈wr,Own c q b
def LI (c:Cx fs) (p jU:Pt) (wr:List Addr) (vs:aq) (T:Nat->Heap->Prop) (da:DA) (db:DS) (r:Fl×St) (n:Nat) (s:Shared):Prop:=∃i q st,q.s=s/\LS c p jU wr vs T da db r n i q st
noncomputable def after (D:Option (Fl×St)) (st:St):Fl->Option (Fl×St)
 | .next=>D
 | .cont=>D
 | .brk=>some (.next,st)
 | .ret u=>some (.ret u,st)
def ends (Go:Prop) (R:Flow->Prop):Flow->Prop
 | .next=>Go
 | .cont=>Go
 | .brk=>R .next
 | .ret v=>R (.ret v)
theorem vh {D:Option (Fl×St)} {fb:Fl} {r:Fl×St} {fl:Flow} {Go:Prop} {R:Flow->Prop} (nJ:Ke q fl fb) (d:after D st fb=some r) (go:D=some r->Go) (out:∀f,Ke q f r.1->st=r.2->R f):ends Go R fl:=by
 cases fb with
 |next=>cases nJ;exact go d
 |cont=>cases nJ;exact go d
 |brk=>cases nJ;cases d;exact out _ rfl rfl
 |ret w=>obtain⟨u,rfl,hu⟩:=nJ;cases d;exact out _ ⟨u,rfl,hu⟩ rfl
theorem Je {P:Prop} {vs:aq} {i:Nat} {da:DA} {db:DS} {r:Fl×St} (d:iT da db (vs.drop i) st=some r) (le:i<=vs.length) (h0:vs.length=i->r=(.next,st)->P)
  (h1:∀v bq fb dM,vs[i]?=some v->i<vs.length->da v st=some bq->db bq=some (fb,dM)->after (iT da db (vs.drop (i+1)) dM) dM fb=some r->P):P:=by
 cases ed:vs.drop i with
 |nil=>rw[ed]at d;exact h0 (drop_nil le ed) (aP d).symm
 |cons v rest=>
  refine y3 (drop_cons ed) λhv hd jT=>?_
  rw[ed]at d
  refine x3 (aM.1 d) λbq e2 d=>?_
  obtain⟨⟨fb,dM⟩,e3,d⟩:=aM.1 d
  exact h1 v bq fb dM hv jT e2 e3 (hd▸d)
theorem abc {dA iter:Expr} {body:List Stmt} {pos:Pos} {di:DI} {da:DA} {db:DS} (hi:k8 fs dA iter di) (ha:jJ fs dA da) (hb:pR fs body db) (hs:∀env x,foldedSetIterable iter env x=pure x):kh fs (.For dA iter body [] pos) (gJ di da db):=by
 intro c p st h
 exact .bind λvs st₁ e1=>.of λf st' d k E hk=>wpAny_For (hi h e1 λI wr T c_ hr=>codeAny_forLoop_any (LI c p c_ wr vs T da db (f,st'))
  (λn s ⟨i,q,stc,es,L⟩=>es▸Je L.d L.le (λen er=>xh hr.J7 L.nx.h L.up L.own (en▸L.at_) λh' tk rz=>ou (hk _ _ ((show st'=stc from ak Prod.snd er)▸L.nx.fin L.own rz hr.new) (show Ke _ Flow.next f from(show f=Fl.next from ak Prod.fst er)▸rfl)))
   λv bq fb dM hv jT e2 e3 d=>xf hr.J7 hv L.nx.h L.up L.own L.at_ λu b7 go=>go λcG aw hu Bq U=>
    have iX:∀b∈wr,Own c cG b:=λb hb=>(L.own b hb).tI aw.a
    ha (aw.h.plus (X:=(·∈wr)) iX) hu e2 λU jk bE U=>hb bE.h e3 λfl iU fJ nJ=>have x:=aw.a.trans (bE.a.trans fJ.a)
     have kf:Nx c p dM iU:=⟨L.nx.a.trans x,aw.h.minus iX fJ.h⟩
     have up:Le c_ iU:=⟨PH.le_trans L.up.le x.le,L.up.pr.trans x.pr⟩
     vh (Go:=∃m,m<n/\LI c p c_ wr vs T da db (f,st') m iU.s) (R:=λf=>k f iU.s) nJ d (λd=>⟨_,L.n▸Nat.sub_succ_lt_self _ _ jT,i+1,iU,dM,rfl,rfl,jT,kf,up,hr.J7.frame _ _ _ Bq (λb hb o e=>aw.h.held iX fJ.h hb e) (aw.h.inv.eC.le (PH.le_trans L.up.le aw.a.le)) (kf.h.inv.eC.le up.le),d,λb hb=>(L.own b hb).tI x⟩)
      λU e es=>hk _ _ ((show dM=st' from es)▸kf) e) vs.length ⟨0,c_,st₁,rfl,rfl,bN _,hr.nx,⟨λU U e=>e,bY _⟩,hr.J2,d,hr.own⟩) (hs _)
noncomputable def jZ (dt:DT) (db:DS):Nat->DS
 |0=>λU=>none
 |n+1=>λst=>(dt st).bind λx=>if x.1 then(db x.2).bind λy=>match y.1 with
   | .next=>jZ dt db n y.2
   | .cont=>jZ dt db n y.2
   | .brk=>some (.next,y.2)
   | .ret u=>some (.ret u,y.2)
  else some (.next,x.2)
def WI (c:Cx fs) (p:Pt) (dt:DT) (db:DS) (r:Fl×St) (n:Nat) (s:Shared):Prop:=∃q st,q.s=s/\Nx c p st q/\jZ dt db n st=some r
theorem BU {P:Prop} {n:Nat} {dt:DT} {db:DS} {r:Fl×St} (d:jZ dt db n st=some r) (h0:∀st₁,dt st=some (false,st₁)->r=(.next,st₁)->P)
  (h1:∀m st₁ fb bq,m<n->dt st=some (true,st₁)->db st₁=some (fb,bq)->after (jZ dt db m bq) bq fb=some r->P):P:=by
 cases n with
 |zero=>cases d
 |succ n=>
  obtain⟨⟨b,st₁⟩,e1,d⟩:=aM.1 d
  cases b with
  |false=>exact h0 st₁ e1 (aP d).symm
  |true=>
   obtain⟨⟨fb,bq⟩,e2,d⟩:=aM.1 (show((db st₁).bind _)=_ from d)
   exact h1 n st₁ fb bq (jb _) e1 e2 d
theorem Q1 (N:Nat) {test:Expr} {body:List Stmt} {pos:Pos} {dt:DT} {db:DS} (ht:rO fs test dt) (hb:pR fs body db):kh fs (.While test body [] pos) (jZ dt db N):=by
 intro c p st h
 exact .of λf st' d k E hk=>wpAny_While (codeAny_whileLoop (WI c p dt db (f,st')) (λn s ⟨q,stc,es,nx,d⟩=>es▸BU d
  (λst₁ e1 er=>ht nx.h e1 λb' c_ n₁ eb=>by rw[eb];exact ou (hk _ _ ((show st'=st₁ from ak Prod.snd er)▸nx.tr n₁) (show Ke _ Flow.next f from(show f=Fl.next from ak Prod.fst er)▸rfl)))
  λm st₁ fb bq hm e1 e2 d=>ht nx.h e1 λb' c_ n₁ eb=>by
   rw[eb]
   exact hb n₁.h e2 λfl cG aw nJ=>have bE:=nx.tr (n₁.tr aw)
    vh (Go:=∃m,m<n/\WI c p dt db (f,st') m cG.s) (R:=λf=>k f cG.s) nJ d (λd=>⟨m,hm,cG,bq,rfl,bE,d⟩) λU e es=>hk _ _ ((show bq=st' from es)▸bE) e) N ⟨p,st,rfl,h.same,d⟩)
noncomputable def owners:List String:=["enumerate","zip","dict_itemiterator","dict_reverseitemiterator","odict_iterator","itertools.zip_longest","itertools.pairwise"]
def kK:=@Bool.false_and
def eW:=@Bool.false_ne_true
theorem Ag {s:Shared} {A:Around} {E:aJ} {M:Model} {dA:Expr} {I:Addr} {u:Value} {T:String} {Q:Unit->Shared->Prop} (ho:∃o,s.heap.get? I=some o/\o.cls= .type T) (hT:owners.contains T=false) (hQ:Q () s):wpAny M A (letOwnedTupleGo dA (.ref I) u) Q E s:=by
 refine x3 (ho) λo ho hc=>?_
 have main:∀a,wpAny M A (do
   let o<-load I
   match o.cls,o.data with
   | .type n,.fields vs=>
    if owners.contains n&&vs[0]?==some (rawInt a)then
     rule "for.unpacks-the-owned-tuple"
     updateField I 0 .none
   |_,_=>pure ()) Q E s:=by
  intro a
  refine ai (wpAny_load ho ?_)
  rw[hc]
  cases hd:o.data<;>first
   |exact av hQ
   |(show wpAny _ A (if(owners.contains T&&_)=true then _ else _) Q E s
     rw[hT,kK,af eW]
     exact av hQ)
 cases dA<;>first|exact av hQ|(cases u<;>first|exact main _|exact av hQ)
section
variable{dA:Expr} {I:Addr} {rest wr fp:List Addr} {vs:aq} {n:Nat} {P:Nat->Value->Prop} {Pt':Nat->dY->Prop} {T:Nat->Heap->Prop} {AS:Nat->Addr->Heap->Prop} {Tn:String} {k:aJ}
theorem DC {Φ:PH} {h h':Heap} (hr:∀b∈fp,b∈wr\/∃o,Φ b=some o) (hk:∀b∈wr,∀o,h.get? b=some o->h'.get? b=some o) (s:Sub Φ h) (s':Sub Φ h'):∀b∈fp,∀o,h.get? b=some o->h'.get? b=some o:=
 λb hb o e=>(hr b hb).elim (hk b · o e) λ⟨o',OJ⟩=>(s' b _ OJ).trans ((s b o' OJ).symm.trans e)
theorem EX (hT:owners.contains Tn=false) (W:∀A:Around,A.handled=none->Walks G.prog G.w A I (I::rest) [I] n P T) (hn:vs.length=n) (hP:∀i v u,vs[i]?=some v->P i u->VR p u v) (hr:∀b∈rest,∃o,p.Φ b=some o)
  (hc:∀i h,T i h->∃o,h.get? I=some o/\o.cls= .type Tn) (A:Around) (hh:A.handled=none):OY dA I [I] vs p T where
 frame i h h' iP hk s s':=(W A hh).frame i h h' iP (DC (λb hb=>(aC.1 hb).imp (a7.2 ·) (hr b)) hk s s')
 live i h iP b hb:=a7.1 hb▸(hc i h iP).imp λU k=>k.1
 item {A} i v s Q E hh hv iP _ hQ:=(W A hh).item i s Q E (hn▸(bO.1 hv).1) iP λu h' tk hp rH hk=>hQ u h' tk (.inl (hP i v u hv hp)) hk λQ' E' hq=>Ag (hc _ _ rH) hT (hq h' rH λU U U e=>e)
 done {A} s Q E hh iP _ hQ:=(W A hh).done s Q E (hn▸iP) hQ
 self {A} i s Q E hh iP h:=(W A hh).self i s Q E iP h
theorem p9 {elts:List Expr} {kt:Nat} {tp:Pos} (W:∀A:Around,A.handled=none->WalksT G.prog G.w A I fp wr n Pt' T AS) (hn:vs.length=n) (hP:∀i v us,vs[i]?=some v->Pt' i us->us.size<=16777216/\∃l,v= .tup l/\bS p us.toList l)
  (hr:∀b∈fp,b∈wr\/∃o,p.Φ b=some o) (hc:∀i h,T i h->∀b∈wr,∃o,h.get? b=some o) (A:Around) (hh:A.handled=none):OY (.Tuple elts kt tp) I wr vs p T where
 frame i h h' iP hk s s':=(W A hh).frame i h h' iP (DC hr hk s s')
 live:=hc
 item {A} i v s Q E hh hv iP _ hQ:=(W A hh).item i s Q E (hn▸(bO.1 hv).1) iP λT' us h' tk hp hT UH hm hk=>by
  obtain⟨hz,l,rfl,qg⟩:=hP i v us hv hp
  refine x3 (UH) λo ho hO=>?_
  exact hQ _ h' tk (.inr ⟨T',us.toList,l,o,rfl,rfl,get_none hT,ho,hO,hz,qg⟩) hk λQ' E' hq=>(W A hh).go elts kt tp i T' _ Q' E' hm hq
 done {A} s Q E hh iP _ hQ:=(W A hh).done s Q E (hn▸iP) hQ
 self {A} i s Q E hh iP h:=(W A hh).self i s Q E iP h
theorem Pm {h':Heap} {tk:Nat} (hk:F9 c p st' dA vs k) (x:Nx c p st' q) (gr:∀a o,q.s.heap.get? a=some o->h'.get? a=some o) (it:∀A:Around,A.handled=none->OY dA I wr vs (q.hp h' tk) T) (h0:T 0 h') (hw:∀b∈wr,q.s.heap.get? b=none):k (.ref I) {q.s with heap:=h',toks:=tk}:=
 have y:=x.h.grow (t:=tk) gr
 hk I wr T (q.hp h' tk) ⟨x.tr y,it c.A c.r.handled,h0,λb hb=>.new x.h (hw b hb) y rfl rfl ((it c.A c.r.handled).live 0 h' h0 b hb),λb hb=>lz.2 λo e=>(x.a.ex b ⟨o,e⟩).not (hw b hb)⟩
theorem uF {o:Obj} (hk:F9 c p st' dA vs k) (x:Nx c p st' q) (ho:o.isFreed=false) (hT:owners.contains Tn=false) (W:∀A:Around,A.handled=none->Walks G.prog G.w A q.s.heap.objs.size (q.s.heap.objs.size::rest) [q.s.heap.objs.size] n P T) (hn:vs.length=n)
  (hP:∀i v u,vs[i]?=some v->P i u->VR q u v) (hr:∀b∈rest,∃o,q.Φ b=some o) (hc:∀i h,T i h->∃o,h.get? q.s.heap.objs.size=some o/\o.cls= .type Tn) (h0:T 0 (q.s.heap.push o)):k (.ref q.s.heap.objs.size) {q.s with heap:=q.s.heap.push o}:=
 Pm (tk:=q.s.toks) hk x (pushKeep _ _) (EX hT W hn (λi v u a b=>(hP i v u a b).mono ⟨λU U e=>e,bY _⟩) hr hc) h0 λb hb=>a7.1 hb▸dT q
theorem bS.at {us:bw} {vs:aq} (h:bS p us vs) {i:Nat} {u:Value} {v:V} (hu:us[i]?=some u) (hv:vs[i]?=some v):VR p u v:=(h.get hv).elim λu' k=>aP (k.1.symm.trans hu)▸k.2
noncomputable def keyList (ks:aG) (l:aq):Option aq:=if ks.length=l.length/\ks.all (λk=>decide (k.length<=16777216))=true then some (ks.map .str)else none
def Gl:V->Option aq
 | .lst l=>some l
 | .tup l=>some l
 | .str x=>some (x.map λc=>.str [c])
 | .eK ks l=>keyList ks l
 |_=>none
def cI (d:D):DI:=λst=>(d st).bind λx=>(Gl x.1).map λv=>(v,x.2)
theorem nX {b:Addr} (h:g6 q b):b≠q.s.heap.objs.size:=λe=>h.not (get_none (iG e.symm))
theorem SR.at_ (h:SR c st p) {b:Addr} {o:Obj} (e:p.Φ b=some o):g6 p b:=⟨o,h.inv.eC _ _ e⟩
def mn:=@wpAny_pyIter_list
def gV:=@List.getElem?_zip_eq_some
theorem Ma {a:V} (u:Value) (e:Gl a=some vs) (x:Nx c p st' q) (hu:VR q u a) {E:aJ} (hk:F9 c p st' dA vs k):wpAny cW c.A (pyIter u) k E q.s:=by
 cases a with
 |lst l=>
  cases e
  refine xJ u hu λb us ht hv=>?_
  have L:=ht.isList x.h.inv.eC
  exact mn L (uF hk x rfl (Tn:="list_iterator") (by decide) (λA hh=>Walks.list hh _ b (nX (ht.2.elim λn e=>x.h.at_ e)) us.toArray) (bS.length hv).symm (λi v u h1 h2=>hv.at (f9.symm.trans h2) h1)
   (λc hc=>a7.1 hc▸ht.2.elim λn e=>⟨_,e⟩) (λi h y=>y.1.imp λo k=>⟨k.1,k.2.1⟩) ⟨⟨_,bj _ rfl,rfl,rfl⟩,L.at λo e=>aZ _ e⟩)
 |tup l=>
  cases e
  refine qh u hu λb us ht hv=>?_
  have L:=ht.isTup x.h.inv.eC
  exact wpAny_pyIter_tuple L (uF hk x rfl (Tn:="tuple_iterator") (by decide) (λA hh=>Walks.tuple hh _ b (nX (ht.2.elim λn e=>x.h.at_ e.1)) us.toArray) (bS.length hv).symm (λi v u h1 h2=>hv.at (f9.symm.trans h2) h1)
   (λc hc=>a7.1 hc▸ht.2.elim λn e=>⟨_,e.1⟩) (λi h y=>y.1.imp λo k=>⟨k.1,k.2.1⟩) ⟨⟨_,bj _ rfl,rfl,rfl⟩,L.at λo e=>aZ _ e⟩)
 |str y=>
  cases e
  refine qi u hu λhz t=>?_
  have hP:∀i v u,(y.map λc=>V.str [c])[i]?=some v->SignAt (S y) i u->VR q u v:=λi v u h1 ⟨d,t',h3,h4⟩=>by
   rw[aQ,show y[i]?=some d from f9.symm.trans h3]at h1
   cases h1
   exact⟨ay rfl,t',h4⟩
  have hl:(y.map λc=>V.str [c]).length=(S y).cps.size:=aD ..
  cases ha:(S y).cps.all (·<128)
  ·exact wpAny_pyIter_wide ha (uF hk x rfl (Tn:="str_iterator") (rest:=[]) (by decide) (λA hh=>Walks.strWide hh _ (S y) t) hl hP (λc hc=>nomatch hc) (λi h y=>y.imp λo k=>⟨k.1,k.2.1⟩) ⟨_,bj _ rfl,rfl,rfl⟩)
  ·exact wpAny_pyIter_ascii ha (uF hk x rfl (Tn:="str_ascii_iterator") (rest:=[]) (by decide) (λA hh=>Walks.strAscii hh _ (S y) t) hl hP (λc hc=>nomatch hc) (λi h y=>y.imp λo k=>⟨k.1,k.2.1⟩) ⟨_,bj _ rfl,rfl,rfl⟩)
 |eK ks l=>
  refine xN u hu λb us ht hv hlen=>sL (P1:=λvs=>F9 c p st' dA vs k->_) vs e (λCt hk=>?_) hk
  obtain⟨o,ho,es,ep,hr⟩:=ht.2
  have D:q.s.heap.DictAt (strKind G.prog G.w) b ((ks.map S).zip us) ep:=⟨o,es,x.h.inv.eC _ _ ho,hr⟩
  refine wpAny_pyIter_dict (bu.2 ht.1.2) D (uF hk x rfl (Tn:="dict_keyiterator") (by decide) (λA hh=>Walks.dictKeys hh _ b (nX (x.h.at_ ho)) ((ks.map S).zip us) ep) (by simp[hlen]) (λi v u h1 ⟨y,w,h3,h4⟩=>?_)
   (λc hc=>a7.1 hc▸⟨_,ho⟩) (λi h y=>y.1.imp λo k=>⟨k.1,k.2.1⟩) ⟨⟨_,bj _ rfl,rfl,rfl⟩,D.at' λo e=>aZ _ e⟩)
  rw[aQ]at h1
  obtain⟨k',rz,rfl⟩:=aO.1 h1
  have h5:(ks.map S)[i]?=some y:=(gV.1 h3).1
  rw[aQ,rz]at h5
  cases h5
  obtain⟨t,rfl⟩:=Value.isStrOf_shape h4
  exact .str (of_decide_eq_true (aI.1 Ct.2 k' (bI rz)))
 |_=>cases e
theorem Xi {e:Expr} {d:D} (hd:bX fs e d):k8 fs dA e (cI d):=by
 intro c p st h
 exact .bind λa st₁ e1=>.map λvs e2 U U hk=>hd h e1 λu q n hu=>Ma u e2 n hu hk
end
end
section
variable{fs:FS} {c:Cx fs} {p q r jU:Pt} {st st' st₁:St} {dA:Expr}
noncomputable def eZ (a b c:Int):aq:=(List.range (Builtin.Range.rangeSize a b c).toNat).map λ(i:Nat)=>.int (a+(i:Int)*c)
def pk (vs:aq):Option (Int×Int×Int):=(lg vs).bind λis=>match is with
 |[b]=>some (0,b,1)
 |[a,b]=>some (a,b,1)
 |[a,b,c]=>if c≠0/\c.natAbs<1073741824 then some (a,b,c)else none
 |_=>none
noncomputable def yt (a b c:Int):Bool:=Builtin.Range.small a b c&&decide ((Builtin.Range.rangeSize a b c).toNat<=16777216)
def cZ (ds:DL):DI:=λst=>(ds st).bind λx=>(pk x.1).bind λa=>if yt a.1 a.2.1 a.2.2 then some (eZ a.1 a.2.1 a.2.2,x.2)else none
theorem vP {us:bw} {vs:aq} {a:Int×Int×Int} (h:bS p us vs) (e:pk vs=some a) {A:Around} {Q E:aJ}
  (hq:∀h' tk t u v,IsRange h' p.s.heap.objs.size a.1 a.2.1 a.2.2 t u v->(∀x o,p.s.heap.get? x=some o->h'.get? x=some o)->Q (.ref p.s.heap.objs.size) {p.s with heap:=h',toks:=tk}):wpAny cW A (call (.type "range") us) Q E p.s:=by
 refine x3 (aM.1 e) λis e1 e=>?_
 obtain⟨xs,rfl,rfl⟩:=vm h e1
 match xs,e with
 |[x],e=>cases e;exact call_range_1 (hq _ _ _ _ _ (IsRange.new ..) λU U e=>aZ _ e)
 |[x,y],e=>cases e;exact call_range_2 (hq _ _ _ _ _ (IsRange.new ..) λU U e=>aZ _ e)
 |[x,y,z],e=>
  exact sL (P1:=λa=>(∀h' tk t u v,IsRange h' p.s.heap.objs.size a.1 a.2.1 a.2.2 t u v->(∀x o,p.s.heap.get? x=some o->h'.get? x=some o)->Q (.ref p.s.heap.objs.size) {p.s with heap:=h',toks:=tk})->_) a e
   (λhc hq=>call_range_3 hc.1 (hq _ _ _ _ _ (IsRange.new ..) λU U e=>aZ _ e) (.inl (PyProof.noPylong_small hc.2))) hq
def mu:=@List.getElem?_range
def qT:=@Nat.lt_of_lt_of_eq
theorem Q8 {x:Str} {np pos:Pos} {e:Expr} {es:List Expr} {ds:DL} (hb:G.bi x=some (.type "range")) (hs:pE fs (e::es) ds) (hx:d6 fs x) (hp:cK pos e es):k8 fs dA (.Call (.Name x np) (e::es) [] pos) (cZ ds):=by
 intro c p st h
 refine .bind λws st₁ e1=>.jn λa e2=>.iff λD3=>.yes λk E hk=>zK hb hs hx hp h e1 λus q n hu=>vP hu e2 λh' tk t u v hR gr=>?_
 have D3:=aX.1 D3
 have aw:Nx c q st₁ (q.hp h' tk):=n.h.grow gr
 refine wpAny_pyIter_range hR D3.1 (uF (Tn:="range_iterator") (rest:=[]) (o:={cls:=.type "range_iterator",data:=.fields #[rawInt a.1,rawInt (Builtin.Range.rangeSize a.1 a.2.1 a.2.2),rawInt a.2.2]}) hk (n.tr aw) rfl (by decide)
  (λA hh=>Walks.range hh _ a.1 a.2.2 (Builtin.Range.rangeSize a.1 a.2.1 a.2.2).toNat) (by simp[eZ]) (λi v u h1 ⟨t,h2⟩=>?_) (λc hc=>nomatch hc) (λi h y=>⟨_,y,rfl⟩) ?_)
 ·unfold eZ at h1
  rw[aQ]at h1
  obtain⟨j,hj,rfl⟩:=aO.1 h1
  rw[mu (qT (bO.1 hj).1 ez)]at hj
  cases hj
  exact⟨t,h2⟩
 ·show IsRangeIter _ _ (a.1+((0:Nat):Int)*a.2.2) (((Builtin.Range.rangeSize a.1 a.2.1 a.2.2).toNat:Int)-((0:Nat):Int)) a.2.2
  rw[<-rangeSize_toNat a.1 a.2.1 a.2.2]
  simpa using bj (h:=h') (o:={cls:=.type "range_iterator",data:=.fields #[rawInt a.1,rawInt (Builtin.Range.rangeSize a.1 a.2.1 a.2.2),rawInt a.2.2]}) rfl
theorem lE {β:Type} {P:β->Prop} {a:β} (h:P a):∀b∈[a],P b:=λb hb=>a7.1 hb▸h
theorem memC {β:Type} {P:β->Prop} {a:β} {l:List β} (h:P a) (k:∀b∈l,P b):∀b∈a::l,P b:=λb hb=>(aC.1 hb).elim (λe=>e▸h) (k b)
noncomputable def ny (l:aq):aq:=(List.range l.length).map λ(i:Nat)=>.tup [.int (i:Int),l.getD i .none]
def nA (d:D):DI:=λst=>(d st).bind λx=>(xI x.1).map λl=>(ny l,x.2)
def gM:=@Nat.le_succ
def dK:=@List.getD_eq_getElem?_getD
def bZ:=@List.getElem?_eq_getElem
theorem Xn {elts:List Expr} {kt:Nat} {tp:Pos} {x:Str} {np pos:Pos} {e:Expr} {d:D} (hb:G.bi x=some (.type "enumerate")) (hs:bX fs e d) (hx:d6 fs x) (hp:cK pos e []):k8 fs (.Tuple elts kt tp) (.Call (.Name x np) [e] [] pos) (nA d):=by
 intro c p st h
 refine .bind λw st₁ e1=>.map λl e2 k E hk=>zK (ds:=ae d az) (vs:=[w]) (st':=st₁) hb (uP hs CD hp.1) hx hp h (by unfold ae az;rw[e1];rfl) λus q n hu=>qt us hu λu hu=>xJ u (show VR q u (.lst l)from yk e2▸hu) λb ws ht hv=>?_
 have L:=ht.isList n.h.inv.eC
 have tb:=ht.2.elim λn' e=>n.h.at_ e
 refine call_enumerate_list L λh' hE hI yY gr=>?_
 have n1:q.s.heap.get? (q.s.heap.objs.size+1)=none:=get_none (gM _)
 have fpo:∀c∈[q.s.heap.objs.size+1,q.s.heap.objs.size,b],c∈[q.s.heap.objs.size+1,q.s.heap.objs.size]\/∃o,q.Φ c=some o:=memC (.inl (.head _)) (memC (.inl (.tail _ (.head _))) (lE (.inr (ht.2.imp' _ λn e=>e))))
 refine wpAny_pyIter_enum hE (Pm (tk:=q.s.toks) hk n gr (p9 (λA hh=>WalksT.enumerate hh (q.s.heap.objs.size+1) q.s.heap.objs.size b (Nat.succ_ne_self _) (λe=>tb.not (e▸n1)) (nX tb) ws.toArray)
  (by simp[ny,bS.length hv]) (λi v us h1 ⟨t,x,h3,h4⟩=>?_) fpo λi h y=>memC (y.1.imp' _ λo e=>e) (lE (y.2.1.imp λo e=>e.1))) ⟨⟨_,hE⟩,hI,L.at λo e=>gr _ o e⟩ (memC n1 (lE (dT q))))
 subst h4
 unfold ny at h1
 rw[aQ]at h1
 obtain⟨j,hj,rfl⟩:=aO.1 h1
 have hil:i<l.length:=qT (bO.1 hj).1 ez
 rw[mu hil]at hj
 cases hj
 have :l[i]?=some (l.getD i .none):=by rw[dK,bZ hil];rfl
 exact⟨ay rfl,_,rfl,.one ⟨t,rfl⟩ (.one ((hv.at (f9.symm.trans h3) this).mono ⟨λU U e=>e,bY _⟩) .nil)⟩
theorem wb:entryFor table "dict_itemiterator.__iter__"=some Builtin.«dict_keyiterator.__iter__»:=
 entryFor_alias (id':="dict_keyiterator.__iter__") (by kernel_rfl) (by first|rfl|decide+kernel|(unfold String.splitOn;simp +decide [String.splitOnAux])) (by decide+kernel) (by kernel_rfl)
theorem BV {prog:Program} {w:World} {K:Type} [DecidableEq K] {knd:KeyKind prog w K} (hh:A.handled=none) (I d:Addr) (sM:d≠I) (d5:List (K×Value)) (ep:Nat):
  WalksT prog w A I [I,d] [I] d5.length (λi us=>∃k key x,d5[i]?=some (k,x)/\knd.is k key=true/\us=#[key,x])
   (λi h=>(∃ok ov,IsItemIter h I d i d5.length ep ok ov)/\h.DictAt knd d d5 ep)
   (λi T h=>(∃ok ov,IsItemIterOut h I d (i+1) d5.length ep ok ov T)/\h.DictAt knd d d5 ep/\T≠I) where
 sub:=λb hb=>by simp at hb;simp[hb]
 frame:=λi h h' iP hk=>by
  obtain⟨⟨ok,ov,hi⟩,hd⟩:=iP
  exact⟨⟨ok,ov,hk I (by simp) _ hi⟩,hd.at' λo e=>hk d (by simp) o e⟩
 item:=λi s Q E hi iP hQ=>by
  obtain⟨⟨ok,ov,hI⟩,hd⟩:=iP
  obtain⟨⟨k,x⟩,hx⟩:∃p,d5[i]?=some p:=⟨d5[i],by simp[hi]⟩
  refine wpAny_pyNext_items_item hI hd hx λkey h' abN ho hT yY hk=>?_
  exact hQ s.heap.objs.size #[key,x] h' s.toks ⟨k,key,x,hx,abN,rfl⟩ (aF _) ⟨_,hT,rfl,_,rfl⟩ ⟨⟨_,_,ho⟩,hd.at' λo e=>hk d o sM e,Nat.ne_of_gt (cE hI)⟩ λb o hb e=>hk b o (λh=>hb (by simp[h])) e
 go:=λelts k pos i T s Q E hm hQ=>by
  obtain⟨⟨ok,ov,ho⟩,hd,hT⟩:=hm
  exact wpAny_letOwnedTupleGo_items ho λh' he' xG=>hQ h' ⟨⟨ok,ov,he'⟩,hd.at' λo e=>xG.extBut d o sM e⟩ λb o hb e=>xG.extBut b o (λh=>hb (by simp[h])) e
 apart:=λi T h hm hT=>hm.2.2 (a7.1 hT)
 done:=λs Q E iP hQ=>by
  obtain⟨⟨ok,ov,hI⟩,hd⟩:=iP
  exact wpAny_pyNext_items_end hh hI hd (by simp) λh' hx=>hQ h' s.toks λb o hb e=>hx b o (λh=>hb (by simp[h])) e
 self:=λi s Q E iP h=>by
  obtain⟨⟨ok,ov,hI⟩,hd⟩:=iP
  have hT:s.TypeIs (.ref I) "dict_itemiterator":=⟨_,hI,rfl⟩
  refine wpAny_pyIter_slot hT F.slot_dict_itemiterator_iter (j0 F.slot_dict_itemiterator_iter hT wb ?_ (F.args_dict_itemiterator_iter_1 _))
  show wpAny _ _ (ret (.ref I)) _ _ s
  exact av ⟨_,rfl,"dict_itemiterator",_,hT,F.slot_dict_itemiterator_next.lookup,h⟩
noncomputable def fO (ks:aG):Bool:=ks.all (λk=>decide (k.length<=16777216))
noncomputable def AY:V->Option (aG×aq)
 | .eK ks l=>some (ks,l)
 |_=>none
theorem aax {k:aG} {l:aq}:AY (.eK k l)=some (k,l):=rfl
theorem Us (a:V):(AY a).elim True λx=>a= .eK x.1 x.2:=by cases a<;>first|exact rfl|exact True.intro
theorem u6 {a:V} {x:aG×aq} (h:AY a=some x):a= .eK x.1 x.2:=(ak (λo=>Option.elim o True λx:aG×aq=>a=V.eK x.1 x.2) h).mp (Us a)
noncomputable def cQ (ks:aG) (l:aq):aq:=(ks.zip l).map λp=>.tup [.str p.1,p.2]
def kB (d:D):DI:=λst=>(d st).bind λx=>(AY x.1).bind λy=>if y.1.length=y.2.length/\fO y.1=true then some (cQ y.1 y.2,x.2)else none
theorem yD {name:Str} {id:String} {o:Expr} {apos pos:Pos} {d:D} {w:V} {x:aG×aq} {Q E:aJ} (m:uW "dict" name id) (hd:bX fs o d) (ha:qu o name apos pos) (h:SR c st p) (e1:d st=some (w,st')) (ew:AY w=some x)
  (hq:∀q b us ep,Nx c p st' q->b≠sysModules->g6 q b->(∃o,q.Φ b=some o)->q.s.heap.DictAt (strKind G.prog G.w) b ((x.1.map S).zip us) ep->bS q us x.2->x.1.length=us.length->q.s.TypeIs (.ref b) "dict"->wpAny cW c.A (call (.builtin id) [.ref b]) Q E q.s):
  wpAny cW c.A (eval (.Call (.Attribute o name apos) [] [] pos) c.env) Q E p.s:=
 oE (ha.1 _) rfl ha.2 m.1.1 m.1.2 m.2 (hd h e1 λu q n hu=>xN u (show VR q u (.eK x.1 x.2)from u6 ew▸hu) λb us ht hv hl=>ht.2.elim λob ho=>ho.2.elim λes r=>r.elim λep r=>
  have D:q.s.heap.DictAt (strKind G.prog G.w) b ((x.1.map S).zip us) ep:=⟨ob,es,n.h.inv.eC _ _ ho.1,r⟩
  ⟨D.dictOf.typeIs,λb' e=>by cases e;exact⟨ob,n.h.inv.eC _ _ ho.1,r.1.2.1⟩,callWith_method0 (env:=c.env) (hq q b us ep n ht.1.2 (n.h.at_ ho.1) ⟨_,ho.1⟩ D hv hl D.dictOf.typeIs)⟩)
def lY:=@call_meetsIn
theorem Ra {elts:List Expr} {kt:Nat} {tp:Pos} {o:Expr} {apos pos:Pos} {d:D} (hd:bX fs o d) (ha:qu o "items" apos pos):k8 fs (.Tuple elts kt tp) (.Call (.Attribute o "items" apos) [] [] pos) (kB d):=by
 intro c p st h
 refine .bind λw st₁ e1=>.jn λx e2=>.iff λCt=>.yes λk E hk=>yD ⟨⟨F.plainAttrs_dict,F.slot_dict_items⟩,F.type_dict_items⟩ hd ha h e1 e2 λq b us ep n JN tb po D hv hlen hT=>
  lY F.slot_dict_items hT F.entry_dict_items (F.args_dict_items_1 _) (meets_dict_items (strKind G.prog G.w) b (bu.2 JN)) ⟨⟨_,D.dictOf⟩,?_⟩
 have aw:Nx c q st₁ (q.hp (q.s.heap.push {cls:=.type "dict_items",data:=.fields #[.ref b]}) q.s.toks):=n.h.grow (pushKeep _ _)
 refine wpAny_pyIter_items ⟨_,bj _ rfl,rfl,rfl⟩ (D.at' λo e=>pushKeep _ _ _ o e) (Pm (q:=q.hp (q.s.heap.push {cls:=.type "dict_items",data:=.fields #[.ref b]}) q.s.toks) (tk:=q.s.toks) hk (n.tr aw) (pushKeep _ _) (p9 (λA hh=>BV (knd:=strKind G.prog G.w) hh _ b (nX (aw.a.ex _ tb)) ((x.1.map S).zip us) ep)
  (by have :=Ct.1;simp[cQ];omega) (λi v ws h1 ⟨y,key,z,h3,h4,h5⟩=>?_) (memC (.inl (.head _)) (lE (.inr po))) λi h y=>lE (y.1.elim λU y=>y.elim λU y=>⟨_,y⟩)) ⟨⟨_,_,bj _ rfl⟩,D.at' λo e=>pushKeep _ _ _ o (pushKeep _ _ _ o e)⟩ (lE (dT _)))
 subst h5
 unfold cQ at h1
 rw[aQ]at h1
 obtain⟨kv,hkv,rfl⟩:=aO.1 h1
 obtain⟨a1,a2⟩:=gV.1 hkv
 obtain⟨b1,b2⟩:=gV.1 h3
 rw[aQ,a1]at b1
 cases b1
 obtain⟨t,rfl⟩:=Value.isStrOf_shape h4
 exact⟨ay rfl,_,rfl,.one (.str (of_decide_eq_true (aI.1 Ct.2 kv.1 (bI a1)))) (.one ((hv.at b2 a2).mono ⟨λU U e=>e,bY _⟩) .nil)⟩
def tV (d:D):DI:=λst=>(d st).bind λx=>(AY x.1).bind λy=>if y.1.length=y.2.length then some (y.2,x.2)else none
theorem Lo {o:Expr} {apos pos:Pos} {d:D} (hd:bX fs o d) (ha:qu o "values" apos pos):k8 fs dA (.Call (.Attribute o "values" apos) [] [] pos) (tV d):=by
 intro c p st h
 refine .bind λw st₁ e1=>.jn λx e2=>.iff λCt=>.yes λk E hk=>yD ⟨⟨F.plainAttrs_dict,F.slot_dict_values⟩,F.type_dict_values⟩ hd ha h e1 e2 λq b us ep n JN tb po D hv hlen hT=>
  lY F.slot_dict_values hT F.entry_dict_values (F.args_dict_values_1 _) (meets_dict_values (strKind G.prog G.w) b (bu.2 JN)) ⟨⟨_,D.dictOf⟩,?_⟩
 have aw:Nx c q st₁ (q.hp (q.s.heap.push {cls:=.type "dict_values",data:=.fields #[.ref b]}) q.s.toks):=n.h.grow (pushKeep _ _)
 exact wpAny_pyIter_values ⟨_,bj _ rfl,rfl,rfl⟩ (D.at' λo e=>pushKeep _ _ _ o e) (uF (Tn:="dict_valueiterator") hk (n.tr aw) rfl (by decide) (λA hh=>Walks.dictValues (knd:=strKind G.prog G.w) hh _ b (nX (aw.a.ex _ tb)) ((x.1.map S).zip us) ep)
  (by simp;exact Z97 Ct hlen) (λi v ws h1 ⟨y,h3⟩=>(hv.at (gV.1 h3).2 h1).mono ⟨λU U e=>e,bY _⟩) (lE po) (λi h y=>y.1.imp λo k=>⟨k.1,k.2.1⟩) ⟨⟨_,bj _ rfl,rfl,rfl⟩,D.at' λo e=>pushKeep _ _ _ o (pushKeep _ _ _ o e)⟩)
end
section
section
variable{prog:Program} {w:World} {A:Around} {E:aJ} {s:Shared}
def j3:=@Int.toNat_natCast
theorem IM {it t:Addr} {i:Nat} {items:dY} {x:Value} {Q:aJ} (hit:s.heap.IsTupleIter it t i) (ht:s.heap.IsTuple t items) (hx:items[i]?=some x)
  (hQ:∀h',h'.IsTupleIter it t (i+1)->Heap.SameBut it s.heap h'->Q x {s with heap:=h'}):wpAny (model prog w) A (Builtin.SmallTypes.nextOf (.ref it)) Q E s:=by
 obtain⟨o,ho,hc,hd⟩:=id hit
 obtain⟨ot,hot,_,nt,OM⟩:=ht
 unfold Builtin.SmallTypes.nextOf
 refine ai (m6 (name:=Str.ofString "__next__") hit.typeIs F.slot_tuple_iterator_next (j0 F.slot_tuple_iterator_next hit.typeIs F.entry_tuple_iterator_next ?_ (F.args_tuple_iterator_next_1 _)))
 show wpAny _ _ (field (.ref it) 0>>=_) _ _ s
 refine ai (gn ho hd (x:=.ref t) rfl ?_)
 show wpAny _ _ (if(Value.ref t==Value.none)=true then _ else _) _ _ s
 rw[af (show¬((Value.ref t==Value.none)=true)from eW)]
 show wpAny _ _ (field (.ref it) 1>>=_) _ _ s
 refine ai (gn ho hd (x:=.int i 0) rfl ?_)
 show wpAny _ _ (seqItems? (.ref t)>>=_) _ _ s
 refine ai (jz hot OM ?_)
 simp only[j3,hx]
 refine ai (wpAny_setField ho hd (by simp) (av ⟨x,rfl,av (hQ _ ⟨_,Heap.get?_update_self _ ho (Obj.isFreed_of_fields (Obj.data_mapFields hd _)),(Obj.cls_mapFields ..).trans hc,?_⟩ (gU ..))⟩))
 rw[Obj.data_mapFields hd];simp[rawInt]
theorem yS {it t:Addr} {i:Nat} {items:dY} {Q:aJ} (hh:A.handled=none) (hit:s.heap.IsTupleIter it t i) (ht:s.heap.IsTuple t items) (hx:items[i]?=none)
  (hE:∀h' e,Heap.ExtBut it s.heap h'->(∃o,h'.get? e=some o/\o.cls= .type "StopIteration")->E (.ref e) {s with heap:=h'}):wpAny (model prog w) A (Builtin.SmallTypes.nextOf (.ref it)) Q E s:=by
 obtain⟨o,ho,hc,hd⟩:=id hit
 obtain⟨ot,hot,_,nt,OM⟩:=ht
 unfold Builtin.SmallTypes.nextOf
 refine ai (m6 (name:=Str.ofString "__next__") hit.typeIs F.slot_tuple_iterator_next (j0 F.slot_tuple_iterator_next hit.typeIs F.entry_tuple_iterator_next ?_ (F.args_tuple_iterator_next_1 _)))
 show wpAny _ _ (field (.ref it) 0>>=_) _ _ s
 refine ai (gn ho hd (x:=.ref t) rfl ?_)
 show wpAny _ _ (if(Value.ref t==Value.none)=true then _ else _) _ _ s
 rw[af (show¬((Value.ref t==Value.none)=true)from eW)]
 show wpAny _ _ (field (.ref it) 1>>=_) _ _ s
 refine ai (gn ho hd (x:=.int i 0) rfl ?_)
 show wpAny _ _ (seqItems? (.ref t)>>=_) _ _ s
 refine ai (jz hot OM ?_)
 simp only[j3,hx]
 refine ai (jw (ai (wpAny_setField ho hd (by simp) ?_)))
 show wpAny _ _ (newExc (.type "StopIteration") []>>=_) _ _ _
 refine ai ?_
 simp only[newExc,newTuple]
 refine ai (mj ?_ (by size_fits))
 refine ai (m:=firstArgMember _ _) (wpAny_of_eq (a:=Value.none) (by first|rfl|(simp only[firstArgMember];rfl)) ?_)
 refine mj ?_ (by size_fits)
 simp only[raiseNew]
 refine ai (wpAny_handled ?_)
 first|rw[show A.in1.handled=none from hh]|rw[hh]
 refine ai (av (wpAny_throw ?_))
 exact hE _ _ (((gU ..).extBut.push _).push _) ⟨_,bj _ rfl,rfl⟩
theorem Jt (hh:A.handled=none) (it t:Addr) (sM:t≠it) (items:dY):
  Draws prog w A it [it,t] items.size (λi v=>items[i]?=some v) (λi h=>h.IsTupleIter it t i/\h.IsTuple t items) where
 live:=λU U st=>let⟨o,ho,_⟩:=st.1;⟨o,ho⟩
 frame:=λU U U st hk=>⟨st.1.at λo e=>hk it (by simp) o e,st.2.at λo e=>hk t (by simp) o e⟩
 item:=λi s Q E hi st hQ=>IM st.1 st.2 (x:=items[i]) (by simp[hi]) λh' Pq xG=>hQ _ h' s.toks (by simp[hi]) ⟨Pq,st.2.extBut xG.extBut sM⟩ xG
 done:=λs Q E st hE=>yS hh st.1 st.2 (by simp) hE
structure ZAp (z TI TO i1 i2:Addr) (f1 f2:List Addr):Prop where
 TIz:TI≠z
 TOz:TO≠z
 TITO:TI≠TO
 TIi1:TI≠i1
 TIi2:TI≠i2
 z1:z∉f1
 z2:z∉f2
 o1:TO∉f1
 o2:TO∉f2
 a1:i1∈f1
 a2:i2∈f2
 b1:i1∉f2
 b2:i2∉f1
section
variable{z TI TO i1 i2:Addr} {f1 f2:List Addr} {n1 n2:Nat} {P1 P2:Nat->Value->Prop} {S1 S2:Nat->Heap->Prop}
def ZSt (z TI TO i1 i2:Addr) (S1 S2:Nat->Heap->Prop) (f:Value) (i j:Nat) (h:Heap):Prop:=IsZip h z TI TO f/\IsPair h TI (.ref i1) (.ref i2)/\(∃a b,IsPair h TO a b)/\S1 i h/\S2 j h
def oF:=@wpAny_setField_rec
theorem Nt (D:ZAp z TI TO i1 i2 f1 f2) (D1:Draws prog w A i1 f1 n1 P1 S1) (D2:Draws prog w A i2 f2 n2 P2 S2) {i:Nat} (l1:i<=n1) (l2:i<=n2) (iP:ZSt z TI TO i1 i2 S1 S2 .none i i s.heap) {Q:aJ}
  (hQ:i<n1->i<n2->∀x y T h' tk,P1 i x->P2 i y->s.heap.objs.size<=T->IsPair h' T x y->ZSt z TI TO i1 i2 S1 S2 (rawInt T) (i+1) (i+1) h'->(∀c o,c≠z->c≠TO->c≠i1->c≠i2->s.heap.get? c=some o->h'.get? c=some o)->Q (.ref T) {s with heap:=h',toks:=tk})
  (hE:¬(i<n1/\i<n2)->∀h' e tk,(∀c o,c≠z->c≠TO->c≠i1->c≠i2->s.heap.get? c=some o->h'.get? c=some o)->(∃o,h'.get? e=some o/\o.cls= .type "StopIteration")->E (.ref e) {s with heap:=h',toks:=tk}):
  wpAny (model prog w) A (Builtin.«zip.__next__» ⟨[.ref z],[]⟩) (λfin s'=>∃v,fin= .done (.ret v)/\Q v s') E s:=by
 obtain⟨hz,UG,⟨a,b,Vc⟩,q1,q2⟩:=iP
 show wpAny _ _ (field (.ref z) 2>>=_) _ _ _
 refine ai (gn hz rfl (x:=.bool false) rfl ?_)
 show wpAny _ _ (field (.ref z) 3>>=_) _ _ _
 refine ai (gn hz rfl (x:=.ref TI) rfl ?_)
 refine ai (jz UG rfl ?_)
 show wpAny _ _ (Builtin.SmallTypes.ownedTupleIsFree (.ref z)>>=_) _ _ _
 refine ai ?_
 unfold Builtin.SmallTypes.ownedTupleIsFree
 refine ai (gn hz rfl (x:=.none) rfl (av ?_))
 simp only[fa]
 refine ai (jw ?_)
 refine ai (gn hz rfl (x:=.ref TO) rfl ?_)
 refine ai (oF hz (by simp) λha za sa=>?_)
 replace za:IsZip ha z TI TO .ellipsis:=za
 refine ai ?_
 simp only[List.zipIdx_cons,List.zipIdx_nil,i7,List.forIn_nil]
 have ka:∀c o,c≠z->s.heap.get? c=some o->ha.get? c=some o:=λc o hc e=>sa.extBut c o hc e
 refine ai (ai (wpAny_onRaise ?_))
 show wpAny _ _ (Builtin.SmallTypes.nextOf (.ref i1)>>=_) _ _ _
 have q1a:=D1.frame _ _ ha q1 λc hc o e=>ka c o (λq=>D.z1 (q▸hc)) e
 by_cases h1:i<n1
 case neg=>
  rw[kO l1 (ja h1)]at q1a
  refine ai (D1.done _ _ _ q1a λhb e sb he=>?_)
  refine x3 (he) λoe OI U_=>?_
  have zb:IsZip hb z TI TO .ellipsis:=sb _ _ (λq=>D.z1 (q▸D.a1)) za
  have hez:e≠z:=λx=>by subst x;rw[zb]at OI;cases OI;simp at U_
  exact oF zb (by simp) λhj U sj=>hE (λk=>h1 k.1) hj e _ (λc o c1 c2 c3 U x=>sj.extBut _ _ c1 (sb _ _ c3 (ka _ _ c1 x))) ⟨oe,sj.extBut _ _ hez OI,U_⟩
 refine ai (D1.item i _ _ _ h1 q1a λx hb tb px sb1 sb=>av ?_)
 have kb:∀c o,c≠i1->ha.get? c=some o->hb.get? c=some o:=λc o hc e=>sb.extBut c o hc e
 have ob:IsPair hb TO a b:=kb _ _ (λq=>D.o1 (q▸D.a1)) (ka _ _ D.TOz Vc)
 refine ai (jz ob rfl ?_)
 refine ai (wpAny_updateSeq_pair ob λhc oc sc=>?_)
 replace oc:IsPair hc TO x b:=oc
 have kc:∀c o,c≠TO->hb.get? c=some o->hc.get? c=some o:=λc o hn e=>sc.extBut c o hn e
 refine ai (wpAny_letGo (av ?_))
 refine ai (ai (wpAny_onRaise ?_))
 show wpAny _ _ (Builtin.SmallTypes.nextOf (.ref i2)>>=_) _ _ _
 have ne2:∀{c},c∈f2->c≠z/\c≠i1/\c≠TO:=λhm=>⟨λq=>D.z2 (q▸hm),λq=>D.b1 (q▸hm),λq=>D.o2 (q▸hm)⟩
 have q2c:=D2.frame _ _ hc q2 λc hm o e=>kc c o (ne2 hm).2.2 (kb c o (ne2 hm).2.1 (ka c o (ne2 hm).1 e))
 by_cases h2:i<n2
 case neg=>
  rw[kO l2 (ja h2)]at q2c
  refine ai (D2.done _ _ _ q2c λhd e sd he=>?_)
  refine x3 (he) λoe OI U_=>?_
  have zd:IsZip hd z TI TO .ellipsis:=sd _ _ (λq=>D.z2 (q▸D.a2)) (kc _ _ D.TOz.symm (kb _ _ (λq=>D.z1 (q▸D.a1)) za))
  have hez:e≠z:=λx=>by subst x;rw[zd]at OI;cases OI;simp at U_
  exact oF zd (by simp) λhj U sj=>hE (λk=>h2 k.2) hj e _ (λc o c1 c2 c3 c4 x=>sj.extBut _ _ c1 (sd _ _ c4 (kc _ _ c2 (kb _ _ c3 (ka _ _ c1 x))))) ⟨oe,sj.extBut _ _ hez OI,U_⟩
 refine ai (D2.item i _ _ _ h2 q2c λy hd td py sd1 sd=>av ?_)
 have kd:∀c o,c≠i2->hc.get? c=some o->hd.get? c=some o:=λc o hn e=>sd.extBut c o hn e
 have od:IsPair hd TO x b:=kd _ _ (λq=>D.o2 (q▸D.a2)) oc
 refine ai (jz od rfl ?_)
 refine ai (wpAny_updateSeq_pair od λhe oe se=>?_)
 replace oe:IsPair he TO x y:=oe
 have ke:∀c o,c≠TO->hd.get? c=some o->he.get? c=some o:=λc o hn e=>se.extBut c o hn e
 refine ai (wpAny_letGo (av (av ?_)))
 refine ai (jz oe rfl ?_)
 refine ai (wpAny_newTuple ?_)
 have sz:he.objs.size=s.heap.objs.size:=by rw[se.1,sd.1,sc.1,sb.1,sa.1]
 have ze:IsZip he z TI TO .ellipsis:=ke _ _ D.TOz.symm (kd _ _ (λq=>D.z2 (q▸D.a2)) (kc _ _ D.TOz.symm (kb _ _ (λq=>D.z1 (q▸D.a1)) za)))
 have VN:∀c o,c≠z->c≠TO->c≠i1->c≠i2->s.heap.get? c=some o->he.get? c=some o:=λc o c1 c2 c3 c4 e=>ke _ _ c2 (kd _ _ c4 (kc _ _ c2 (kb _ _ c3 (ka _ _ c1 e))))
 have s1e:S1 (i+1) he:=D1.frame _ _ he sb1 λc hm o e=>ke c o (λq=>D.o1 (q▸hm)) (kd c o (λq=>D.b2 (q▸hm)) (kc c o (λq=>D.o1 (q▸hm)) e))
 have s2e:S2 (i+1) he:=D2.frame _ _ he sd1 λc hm o e=>ke c o (ne2 hm).2.2 e
 show wpAny _ _ (Builtin.SmallTypes.ownedTupleHandOut (.ref z) (.ref he.objs.size)>>=_) _ _ _
 refine ai ?_
 unfold Builtin.SmallTypes.ownedTupleHandOut
 have zf:IsZip (he.push {cls:=.type "tuple",data:=.seq #[x,y]}) z TI TO .ellipsis:=aZ _ ze
 refine ai (oF zf (by simp) λhg zg sg=>?_)
 replace zg:IsZip hg z TI TO (rawInt he.objs.size):=zg
 refine oF zg (by simp) λhj zj sj=>?_
 replace zj:IsZip hj z TI TO (rawInt he.objs.size):=zj
 have up:∀c o,c≠z->he.get? c=some o->hj.get? c=some o:=λc o c1 e=>sj.extBut _ _ c1 (sg.extBut _ _ c1 (aZ _ e))
 have zlt:z<he.objs.size:=cE ze
 have T2:IsPair hj he.objs.size x y:=sj.extBut _ _ (Nat.ne_of_gt zlt) (sg.extBut _ _ (Nat.ne_of_gt zlt) (bj _ rfl))
 refine av ⟨_,rfl,?_⟩
 refine hQ h1 h2 x y he.objs.size hj _ px py (iG sz.symm) T2 ⟨zj,up _ _ D.TIz (VN _ _ D.TIz D.TITO D.TIi1 D.TIi2 UG),⟨_,_,up _ _ D.TOz oe⟩,D1.frame _ _ _ s1e λc hm o e=>up c o (λq=>D.z1 (q▸hm)) e,D2.frame _ _ _ s2e λc hm o e=>up c o (ne2 hm).1 e⟩ λc o c1 c2 c3 c4 e=>up c o c1 (VN c o c1 c2 c3 c4 e)
end
end
def rN:Bool->Heap->Addr->dY->Prop
 |true,h,a,x=>h.IsList a x
 |false,h,a,x=>h.IsTuple a x
noncomputable def pH (k:Bool) (a:Addr):Obj:={cls:=.type (if k then "list_iterator" else "tuple_iterator"),data:=.fields #[.ref a,.int 0 0]}
def PT:Bool->Heap->Addr->Addr->Nat->Prop
 |true,h,i,a,n=>h.IsListIter i a n
 |false,h,i,a,n=>h.IsTupleIter i a n
theorem rN.at {k:Bool} {h h':Heap} {a:Addr} {x:dY} (y:rN k h a x) (e:∀o,h.get? a=some o->h'.get? a=some o):rN k h' a x:=by
 cases k
 ·exact Heap.IsTuple.at y e
 ·exact Heap.IsList.at y e
section
variable{prog:Program} {w:World} {A:Around} {E:aJ} {s:Shared}
theorem xl {k:Bool} {a:Addr} {x:dY} {Q:aJ} (hx:rN k s.heap a x) (h:Q (.ref s.heap.objs.size) {s with heap:=s.heap.push (pH k a)}):wpAny (model prog w) A (pyIter (.ref a)) Q E s:=by
 cases k
 ·exact wpAny_pyIter_tuple hx h
 ·exact mn hx h
theorem DH {k:Bool} (hh:A.handled=none) (it t:Addr) (sM:t≠it) (items:dY):
  Draws prog w A it [it,t] items.size (λi v=>items[i]?=some v) (λi h=>PT k h it t i/\rN k h t items):=by
 cases k
 ·exact Jt hh it t sM items
 ·exact Draws.list hh it t sM items
def zH (h:Heap) (k j:Bool) (a b:Addr):Heap:=((((h.push (pH k a)).push (pH j b)).push {cls:=.type "tuple",data:=.seq #[.ref h.objs.size,.ref (h.push (pH k a)).objs.size]}).push {cls:=.type "tuple",data:=.seq #[.none,.none]})
def M3 (h:Heap) (k j:Bool) (a b:Addr):Heap:=(zH h k j a b).push {cls:=.type "zip",data:=.fields #[.none,.bool false,.bool false,.ref ((h.push (pH k a)).push (pH j b)).objs.size,.ref (((h.push (pH k a)).push (pH j b)).push {cls:=.type "tuple",data:=.seq #[.ref h.objs.size,.ref (h.push (pH k a)).objs.size]}).objs.size]}
theorem IT (k j:Bool) (a b:Addr) (xs ys:dY):
  Meets (Builtin.«zip.__new__» ⟨[.type "zip",.ref a,.ref b],[]⟩) (λU R s=>rN k s.heap a xs/\rN j s.heap b ys/\R (.ok (.ret (.ref (zH s.heap k j a b).objs.size))) {s with heap:=M3 s.heap k j a b}):=
 .of_wp λprog w A R s h=>by
  obtain⟨hp,g,d,tk,os⟩:=s;obtain⟨h1,h2,h⟩:=h
  have aeM:=sub_zip
  have L1:rN k (Shared.heap ⟨hp,g,d,tk,os⟩) a xs:=h1
  have L2:rN j (Shared.heap ⟨hp.push (pH k a),g,d,tk,os⟩) b ys:=rN.at h2 λo e=>aZ _ e
  wp_walk using xl L1,xl L2
  exact⟨_,rfl,h⟩
end
section
variable{A:Around} {E:aJ} {s:Shared}
def fD:=@Heap.size_push
theorem MQ {k j:Bool} {a b:Addr} {xs ys:dY} {Q:aJ} (h1:rN k s.heap a xs) (h2:rN j s.heap b ys)
  (h:∀(h':Heap) (n:Nat),n=s.heap.objs.size->IsZip h' (n+4:Nat) (n+2:Nat) (n+3:Nat) .none->IsPair h' (n+2:Nat) (.ref n) (.ref (n+1:Nat))->IsPair h' (n+3:Nat) .none .none->h'.get? n=some (pH k a)->h'.get? (n+1:Nat)=some (pH j b)->
   (∀c o,s.heap.get? c=some o->h'.get? c=some o)->Q (.ref (n+4:Nat)) {s with heap:=h'}):
  wpAny cW A (call (.type "zip") [.ref a,.ref b]) Q E s:=by
 refine callType_new F.called_zip (by decide) (F.typeCall_zip_2 _ _) (F.newCall_zip_2 _ _) (λobj=>F.args_object_init_3 obj _ _) F.entry_zip_new (IT k j a b xs ys) ⟨h1,h2,?_⟩
 have z1:(s.heap.push (pH k a)).objs.size=s.heap.objs.size+1:=fD ..
 have z2:((s.heap.push (pH k a)).push (pH j b)).objs.size=s.heap.objs.size+2:=by rw[fD,z1]
 have g5:(M3 s.heap k j a b).get? (zH s.heap k j a b).objs.size=some {cls:=.type "zip",data:=.fields #[.none,.bool false,.bool false,.ref ((s.heap.push (pH k a)).push (pH j b)).objs.size,.ref (((s.heap.push (pH k a)).push (pH j b)).push {cls:=.type "tuple",data:=.seq #[.ref s.heap.objs.size,.ref (s.heap.push (pH k a)).objs.size]}).objs.size]}:=bj _ rfl
 have z3:(((s.heap.push (pH k a)).push (pH j b)).push {cls:=.type "tuple",data:=.seq #[.ref s.heap.objs.size,.ref (s.heap.push (pH k a)).objs.size]}).objs.size=s.heap.objs.size+3:=by rw[fD,z2]
 have z4:(zH s.heap k j a b).objs.size=s.heap.objs.size+4:=by unfold zH;rw[fD,z3]
 have g1:(M3 s.heap k j a b).get? s.heap.objs.size=some (pH k a):=aZ _ (aZ _ (aZ _ (aZ _ (bj _ rfl))))
 have g2:(M3 s.heap k j a b).get? (s.heap.push (pH k a)).objs.size=some (pH j b):=aZ _ (aZ _ (aZ _ (bj _ rfl)))
 have g3:(M3 s.heap k j a b).get? ((s.heap.push (pH k a)).push (pH j b)).objs.size=some _:=aZ _ (aZ _ (bj _ rfl))
 have g4:(M3 s.heap k j a b).get? (((s.heap.push (pH k a)).push (pH j b)).push {cls:=.type "tuple",data:=.seq #[.ref s.heap.objs.size,.ref (s.heap.push (pH k a)).objs.size]}).objs.size=some _:=aZ _ (bj _ rfl)
 have kk:∀c o,s.heap.get? c=some o->(M3 s.heap k j a b).get? c=some o:=λc o x=>
  aZ _ (aZ _ (aZ _ (aZ _ (aZ _ x))))
 generalize M3 s.heap k j a b=h5 at g1 g2 g3 g4 g5 kk |-
 rw[z2,z3,z4]at g5
 rw[z1,z2]at g3
 rw[z3]at g4
 rw[z1]at g2
 show _/\_
 rw[z4]
 exact⟨⟨_,g5,rfl⟩,h h5 s.heap.objs.size rfl g5 g3 g4 g1 g2 kk⟩
def gO:=@Nat.lt_irrefl
theorem Ib {prog:Program} {w:World} {z TI TO i1 i2:Addr} {f1 f2:List Addr} {n1 n2:Nat} {P1 P2:Nat->Value->Prop} {S1 S2:Nat->Heap->Prop} (D:ZAp z TI TO i1 i2 f1 f2) (D1:Draws prog w A.in1 i1 f1 n1 P1 S1) (D2:Draws prog w A.in1 i2 f2 n2 P2 S2) (hTf:TI∉f1/\TI∉f2):
  WalksT prog w A z (z::TI::TO::(f1++f2)) [z,TI,TO,i1,i2] (min n1 n2) (λi us=>∃x y,P1 i x/\P2 i y/\us=#[x,y]) (λi h=>ZSt z TI TO i1 i2 S1 S2 .none i i h)
   (λi T h=>ZSt z TI TO i1 i2 S1 S2 (rawInt T) (i+1) (i+1) h/\T∉[z,TI,TO,i1,i2]) where
 sub:=λb hb=>by
  have h1:=D.a1
  have h2:=D.a2
  simp at hb |-
  rcases hb with rfl|rfl|rfl|rfl|rfl<;>simp[*]
 frame:=λi h h' iP hk=>by
  obtain⟨hz,UG,⟨a,b,Vc⟩,q1,q2⟩:=iP
  exact⟨hk _ (by simp) _ hz,hk _ (by simp) _ UG,⟨a,b,hk _ (by simp) _ Vc⟩,D1.frame _ _ _ q1 λc hc o e=>hk c (by simp[hc]) o e,D2.frame _ _ _ q2 λc hc o e=>hk c (by simp[hc]) o e⟩
 item:=λi s Q E hi iP hQ=>by
  have hT:s.TypeIs (.ref z) "zip":=⟨_,iP.1,rfl⟩
  have hi:=Nat.lt_min.1 hi
  unfold pyNext
  refine ai (wpAny_attempt (m6 (name:=Str.ofString "__next__") hT F.slot_zip_next (j0 F.slot_zip_next hT F.entry_zip_next (Nt D D1 D2 (lX hi.1) (lX hi.2) iP (λU U x y T h' tk p1 p2 hT hP hz hk=>av ?_) λk=>(k hi).elim) (F.args_zip_next_1 _))))
  have alive:∀c∈[z,TI,TO,i1,i2],∃o,s.heap.get? c=some o:=memC ⟨_,iP.1⟩ (memC ⟨_,iP.2.1⟩ (memC (iP.2.2.1.elim λU y=>y.imp' _ λU y=>y) (memC (D1.live _ _ iP.2.2.2.1) (lE (D2.live _ _ iP.2.2.2.2)))))
  exact hQ T #[x,y] h' tk ⟨x,y,p1,p2,rfl⟩ hT ⟨_,hP,rfl,_,rfl⟩ ⟨hz,λhm=>(alive T hm).elim λo e=>absurd (cE e) (Nat.not_lt.2 hT)⟩ λc o hc e=>hk c o (λx=>hc (x▸.head _)) (λx=>hc (x▸.tail _ (.tail _ (.head _)))) (λx=>hc (x▸.tail _ (.tail _ (.tail _ (.head _))))) (λx=>hc (x▸.tail _ (.tail _ (.tail _ (.tail _ (.head _)))))) e
 go:=λelts k pos i T s Q E hm hQ=>by
  obtain⟨⟨hz,UG,⟨a,b,Vc⟩,q1,q2⟩,_⟩:=hm
  exact wpAny_letOwnedTupleGo_zip hz λh' hz' xG=>hQ h' ⟨hz',xG.extBut _ _ D.TIz UG,⟨a,b,xG.extBut _ _ D.TOz Vc⟩,D1.frame _ _ _ q1 λc hc o e=>xG.extBut _ _ (λq=>D.z1 (q▸hc)) e,D2.frame _ _ _ q2 λc hc o e=>xG.extBut _ _ (λq=>D.z2 (q▸hc)) e⟩
   λc o hc e=>xG.extBut _ _ (λx=>hc (x▸.head _)) e
 apart:=λi T h hm=>hm.2
 done:=λs Q E iP hQ=>by
  have hT:s.TypeIs (.ref z) "zip":=⟨_,iP.1,rfl⟩
  unfold pyNext
  refine ai (wpAny_attempt (m6 (name:=Str.ofString "__next__") hT F.slot_zip_next (j0 F.slot_zip_next hT F.entry_zip_next (Nt D D1 D2 (l_ ..) (Nat.min_le_right ..) iP (λk k'=>absurd (Nat.lt_min.2 ⟨k,k'⟩) (gO _)) λU h' e tk hk he=>?_) (F.args_zip_next_1 _))))
  refine x3 (he) λo ho hc=>?_
  refine ai (wpAny_isInstance (T:="StopIteration") (b:=true) ⟨o,ho,hc⟩ isSubtype_stop ?_)
  exact av (hQ _ _ λc o hc e=>hk c o (λx=>hc (x▸.head _)) (λx=>hc (x▸.tail _ (.tail _ (.head _)))) (λx=>hc (x▸.tail _ (.tail _ (.tail _ (.head _))))) (λx=>hc (x▸.tail _ (.tail _ (.tail _ (.tail _ (.head _)))))) e)
 self:=λi s Q E iP h=>wpAny_pyIter_zip iP.1 h
end
end
set_option genSizeOf true
set_option genInjectivity true
section
variable{fs:FS} {c:Cx fs} {p q r jU:Pt} {st st' st₁:St}
noncomputable def FK (x y:aq):aq:=(x.zip y).map λp=>.tup [p.1,p.2]
noncomputable def FA:V->Option aq
 | .lst l=>some l
 | .tup l=>some l
 |_=>none
@[elab_as_elim] theorem GQ {P:Value->Prop} {v:V} {x:aq} (u:Value) (h:VR p u v) (hs:Sub p.Φ p.s.heap) (e:FA v=some x) (K:∀k a us,rN k p.s.heap a us.toArray->bS p us x->(∃o,p.Φ a=some o)->P (.ref a)):P u:=by
 cases v with
 |tup l=>exact qh u h λa us ht hv=>K false a us (ht.isTup hs) (aP e▸hv) (ht.2.imp λo k=>k.1)
 |lst l=>exact xJ u h λa us ht hv=>K true a us (ht.isList hs) (aP e▸hv) (ht.2.imp' _ λn k=>k)
 |_=>cases e
def Kz (ds:DL):DI:=λst=>(ds st).bind λx=>(rK x.1).bind λv=>(FA v.1).bind λp=>(FA v.2).map λq=>(FK p q,x.2)
theorem sqi {k:Bool} {h:Heap} {i t:Addr} {m:Nat} (y:PT k h i t m):∃o,h.get? i=some o:=by cases k<;>exact y.imp λU k=>k.1
theorem Vy {k:Bool} {h:Heap} {i a:Addr} (y:h.get? i=some (pH k a)):PT k h i a 0:=by cases k<;>exact⟨_,y,rfl,rfl⟩
theorem zap {n:Nat} {a b:Addr} (ha:∀i:Nat,a≠(n+i:Nat)) (hb:∀i:Nat,b≠(n+i:Nat)):ZAp (n+4:Nat) (n+2:Nat) (n+3:Nat) (n:Nat) (n+1:Nat) [(n:Nat),a] [(n+1:Nat),b]/\(n+2:Nat)∉[(n:Nat),a]/\(n+2:Nat)∉[(n+1:Nat),b]:=by
 have w:∀i j:Nat,i≠j->(n+i:Nat)≠(n+j:Nat):=λi j h e=>h (Nat.add_left_cancel e)
 have ni:∀{x y z:Nat},x≠y->z≠x->x∉[y,z]:=λh h'=>List.not_mem_cons_of_ne_of_not_mem h (List.not_mem_cons_of_ne_of_not_mem h'.symm bh)
 exact⟨⟨w 2 4 (by decide),w 3 4 (by decide),w 2 3 (by decide),w 2 0 (by decide),w 2 1 (by decide),ni (w 4 0 (by decide)) (ha 4),ni (w 4 1 (by decide)) (hb 4),ni (w 3 0 (by decide)) (ha 3),ni (w 3 1 (by decide)) (hb 3),.head _,.head _,ni (w 0 1 (by decide)) (hb 0),ni (w 1 0 (by decide)) (ha 1)⟩,ni (w 2 0 (by decide)) (ha 2),ni (w 2 1 (by decide)) (hb 2)⟩
theorem bS.of_get {us:bw} {vs:aq} (h:bS p us vs) {i:Nat} {u:Value} (hu:us[i]?=some u):∃v,vs[i]?=some v/\VR p u v:=
 have hi:i<vs.length:=bS.length h▸(bO.1 hu).1
 ⟨vs[i],bZ hi,h.at hu (bZ hi)⟩
structure zO (c:Cx fs) (p:Pt) (st':St) (l1 l2:aq) (I:Addr) (fp wr:List Addr) (n:Nat) (P:Nat->dY->Prop) (T:Nat->Heap->Prop) (AS:Nat->Addr->Heap->Prop) (q:Pt):Prop where
 nx:Nx c p st' q
 W:∀A:Around,A.handled=none->WalksT G.prog G.w A I fp wr n P T AS
 len:(FK l1 l2).length=n
 pw:∀i us,P i us->∃x y v w,us=#[x,y]/\(l1[i]?=some v/\VR q x v)/\l2[i]?=some w/\VR q y w
 fp:∀b∈fp,b∈wr\/∃o,q.Φ b=some o
 lv:∀i h,T i h->∀b∈wr,∃o,h.get? b=some o
 J2:T 0 q.s.heap
 own:∀b∈wr,Own c q b
 new:∀b∈wr,p.s.heap.get? b=none
theorem Nr {x:Str} {np pos:Pos} {e e':Expr} {d d':D} {ws p1 p2:aq} {v:V×V} {k E:aJ} (hb:G.bi x=some (.type "zip")) (hs:bX fs e d) (xG:bX fs e' d') (hx:d6 fs x) (hp:cK pos e [e']) (J9:kq e' []) (h:SR c st p)
  (e1:ae d (ae d' az) st=some (ws,st₁)) (ev:rK ws=some v) (k1:FA v.1=some p1) (k2:FA v.2=some p2) (hk:∀I fp wr n P T AS q,zO c p st₁ p1 p2 I fp wr n P T AS q->k (.ref I) q.s):
  wpAny cW c.A (eval (.Call (.Name x np) [e,e'] [] pos) c.env) (λxv b7=>wpAny cW c.A (pyIter xv) k E b7) E p.s:=by
 refine zK hb (uP hs (uP xG CD J9) hp.1) hx hp h e1 λus q n hu=>?_
 rw[show ws=[v.1,v.2]from yF ev]at hu
 refine gX us hu λu1 us OH hu=>qt us hu λu2 OG=>GQ u1 OH n.h.inv.eC k1 λkk a xs sa va pa=>GQ u2 OG n.h.inv.eC k2 λj b ys sb vb pb=>MQ sa sb λh' m hm gz gTI gTO g1 g2 gr=>?_
 have ta:g6 q a:=pa.elim λo e=>n.h.at_ e
 have tb:g6 q b:=pb.elim λo e=>n.h.at_ e
 have fr:∀i:Nat,q.s.heap.get? (m+i:Nat)=none:=λi=>get_none (hm▸f7 ..)
 have ne:∀{a},g6 q a->∀i:Nat,a≠(m+i:Nat):=λt i e=>t.not (e▸fr i)
 obtain⟨D,hTf⟩:=zap (ne ta) (ne tb)
 have m0:=Le.mk (p:=q) (q:=q.hp h' q.s.toks) (λU U e=>e) (bY _)
 have y:=n.h.grow (t:=q.s.toks) gr
 have hw:∀b∈[(m+4:Nat),m+2,m+3,m,m+1],q.s.heap.get? b=none:=memC (fr 4) (memC (fr 2) (memC (fr 3) (memC (fr 0) (lE (fr 1)))))
 refine wpAny_pyIter_zip gz (hk (m+4:Nat) _ [(m+4:Nat),m+2,m+3,m,m+1] _ _ _ _ (q.hp h' q.s.toks) ⟨n.tr y,λA hh=>Ib D (DH (A:=A.in1) (k:=kk) hh (m:Nat) a (ne ta 0) xs.toArray) (DH (A:=A.in1) (k:=j) hh (m+1:Nat) b (ne tb 1) ys.toArray) hTf,
  by simp[FK,bS.length va,bS.length vb],λi us ⟨x,y,hx,hy,e⟩=>(va.of_get (f9.symm.trans hx)).elim λv hv=>(vb.of_get (f9.symm.trans hy)).elim λw hw=>⟨x,y,v,w,e,⟨hv.1,hv.2.mono m0⟩,hw.1,hw.2.mono m0⟩,memC (.inl (.head _)) (memC (.inl (.tail _ (.head _))) (memC (.inl (.tail _ (.tail _ (.head _)))) (memC (.inl (.tail _ (.tail _ (.tail _ (.head _))))) (memC (.inr pa) (memC (.inl (.tail _ (.tail _ (.tail _ (.tail _ (.head _)))))) (lE (.inr pb))))))),
  λi h y=>memC ⟨_,y.1⟩ (memC ⟨_,y.2.1⟩ (memC (y.2.2.1.elim λU z=>z.imp' _ λU z=>z) (memC (sqi y.2.2.2.1.1) (lE (sqi y.2.2.2.2.1))))),⟨gz,gTI,⟨_,_,gTO⟩,⟨Vy g1,sa.at λo e=>gr _ o e⟩,Vy g2,sb.at λo e=>gr _ o e⟩,
  λb hb=>.new n.h (hw b hb) y rfl rfl (memC (P:=λb=>g6 (q.hp h' q.s.toks) b) ⟨_,gz⟩ (memC ⟨_,gTI⟩ (memC ⟨_,gTO⟩ (memC ⟨_,g1⟩ (lE ⟨_,g2⟩)))) b hb),λb hb=>lz.2 λo e=>(n.a.ex b ⟨o,e⟩).not (hw b hb)⟩)
theorem aaT {elts:List Expr} {kt:Nat} {tp:Pos} {x:Str} {np pos:Pos} {e e':Expr} {d d':D} (hb:G.bi x=some (.type "zip")) (hs:bX fs e d) (xG:bX fs e' d') (hx:d6 fs x) (hp:cK pos e [e']) (J9:kq e' []):k8 fs (.Tuple elts kt tp) (.Call (.Name x np) [e,e'] [] pos) (Kz (ae d (ae d' az))):=by
 intro c p st h
 exact .bind λws st₁ e1=>.jn λv ev=>.jn λp1 k1=>.map λp2 k2 k E hk=>Nr hb hs xG hx hp J9 h e1 ev k1 k2 λI fp wr n P T AS q z=>
  hk I wr T q ⟨z.nx,p9 z.W z.len (λi v us h1 h2=>(z.pw i us h2).elim λx k=>k.elim λy k=>k.elim λv' k=>k.elim λw k=>k.1▸⟨ay rfl,[v',w],aP (h1.symm.trans ((aQ ..).trans (ak (Option.map _) (gV (z:=(v',w))|>.mpr ⟨k.2.1.1,k.2.2.1⟩)))),.one k.2.1.2 (.one k.2.2.2 .nil)⟩) z.fp z.lv c.A c.r.handled,z.J2,z.own,z.new⟩
end
set_option genSizeOf false
set_option genInjectivity false
section
theorem fR {scope:Scope} {env:Env} (h:∀x∈scope.names,x.2= .free->∃c,env.cells.lookup x.1=some c):closureFor scope env=pure (ue env.cells scope.names []):=by
 have key:∀(l:List (Str×NameKind)) (acc:List (Str×Addr)),(∀x∈l,x.2= .free->∃c,env.cells.lookup x.1=some c)->
   (forIn l acc λ(x:Str×NameKind) (cs:List (Str×Addr))=>match x with
    |(name,kind)=>if(kind==.free)=true then(do let c<-cellOf env name;pure (ForInStep.yield ((name,c)::cs)))else pure (ForInStep.yield cs))=(pure (ue env.cells l acc):Sem _):=by
  intro l
  induction l with
  |nil=>intro acc _;rfl
  |cons x l ih=>
   intro acc hx
   obtain⟨n,k⟩:=x
   rw[i7]
   by_cases hk:(k==.free)=true
   ·obtain⟨c,hc⟩:=hx (n,k) cV (by simpa using hk)
    have e:cellOf env n=pure c:=by unfold cellOf;rw[hc]
    simp only[hk,fa,e,zJ]
    rw[show env.cells.lookup n=some c from hc]
    exact ih _ λy hy=>hx y (b9 _ hy)
   ·simp only[hk,zJ]
    exact ih _ λy hy=>hx y (b9 _ hy)
 unfold closureFor
 have :=key scope.names [] h
 simp only[]at this |-
 first
  |(rw[this];rfl)
  |exact(ak (λt=>t>>=pure) this).trans rfl
theorem ML {cells:List (Str×Addr)}:∀{l:List (Str×NameKind)} {acc:List (Str×Addr)} {x:Str} {c:Addr},(x,c)∈ue cells l acc->(x,c)∈acc\/(cells.lookup x=some c/\(x,NameKind.free)∈l):=by
 intro xx
 induction xx with
 |nil=>
  intro _ _ _ h
  exact .inl h
 |cons yy r ih=>
  obtain⟨n,k⟩:=yy
  intro acc x c h
  rw[zJ]at h
  by_cases hk:(k==.free)=true
  ·rw[ag hk]at h
   have rz:k= .free:=by simpa using hk
   subst rz
   cases hc:cells.lookup n with
   |some c'=>
    rw[hc]at h
    rcases ih h with h|⟨h,h'⟩
    ·rcases aC.1 h with e|h
     ·cases e;exact .inr ⟨hc,cV⟩
     ·exact .inl h
    ·exact .inr ⟨h,b9 _ h'⟩
   |none=>
    rw[hc]at h
    rcases ih h with h|⟨h,h'⟩
    ·exact .inl h
    ·exact .inr ⟨h,b9 _ h'⟩
  ·rw[af hk]at h
   rcases ih h with h|⟨h,h'⟩
   ·exact .inl h
   ·exact .inr ⟨h,b9 _ h'⟩
theorem MM {cells:List (Str×Addr)}:∀{l:List (Str×NameKind)} {acc:List (Str×Addr)} {p:Str×Addr},p∈acc->p∈ue cells l acc:=by
 intro xx
 induction xx with
 |nil=>
  intro _ _ h
  exact h
 |cons yy r ih=>
  obtain⟨n,k⟩:=yy
  intro acc p h
  rw[zJ]
  by_cases hk:(k==.free)=true
  ·rw[ag hk]
   cases cells.lookup n with
   |some c=>exact ih (b9 _ h)
   |none=>exact ih h
  ·rw[af hk];exact ih h
theorem DN {cells:List (Str×Addr)}:∀{l:List (Str×NameKind)} {acc:List (Str×Addr)} {x:Str} {c:Addr},(x,NameKind.free)∈l->cells.lookup x=some c->(x,c)∈ue cells l acc:=by
 intro xx
 induction xx with
 |nil=>
  intro z1 z2 z3 z4 z5
  first|(cases z1;done)|(cases z2;done)|(cases z3;done)|(cases z4;done)|(cases z5;done)
 |cons yy r ih=>
  obtain⟨n,k⟩:=yy
  intro acc x c h hc
  rw[zJ]
  rcases aC.1 h with e|h
  ·cases e
   rw[ag (beq_self_eq_true _),hc]
   exact MM cV
  ·by_cases hk:(k==.free)=true
   ·rw[ag hk]
    cases cells.lookup n with
    |some _=>exact ih h hc
    |none=>exact ih h hc
   ·rw[af hk];exact ih h hc
theorem ji {β:Type}:∀{l:List (Str×β)} {x:Str} {b:β},(x,b)∈l->∃c,l.lookup x=some c:=by
 intro xx
 induction xx with
 |nil=>
  intro z1 z2 z3
  first|(cases z1;done)|(cases z2;done)|(cases z3;done)
 |cons yy r ih=>
  obtain⟨k,v⟩:=yy
  intro x b h
  rw[bG]
  cases hb:x==k with
  |true=>exact⟨v,rfl⟩
  |false=>
   rcases aC.1 h with e|h
   ·cases e;simp at hb
   ·exact ih h
theorem eP:∀(names:List (Str×NameKind)) (n:Nat) (acc:List (Str×Addr)),cellsFrom n names acc=cellsFrom n names []++acc:=by
 intro xx
 induction xx with
 |nil=>
  intro _ _
  exact rfl
 |cons yy r ih=>
  obtain⟨x,k⟩:=yy
  intro n acc
  unfold cellsFrom
  split
  ·rw[ih (n+1) ((x,n)::acc),ih (n+1) [(x,n)]];simp
  ·rw[ih n acc]
set_option tactic.hygienic true in
theorem wL:∀{names:List (Str×NameKind)} {n:Nat} {x:Str} {c:Addr},(x,c)∈cellsFrom n names []->(x,NameKind.cell)∈names:=by
 intro xx
 induction xx with
 |nil=>
  intro z1 z2 z3 z4
  first|(cases z1;done)|(cases z2;done)|(cases z3;done)|(cases z4;done)
 |cons yy r ih=>
  obtain⟨y,k⟩:=yy
  intro n x c h
  unfold cellsFrom at h
  split at h
  ·rename_i hk
   rw[eP]at h
   rcases bF.1 h with h|h
   ·exact b9 _ (ih h)
   ·cases a7.1 h
    have :k= .cell:=by simpa using hk
    subst this;exact cV
  ·exact b9 _ (ih h)
theorem pM:∀{names:List (Str×NameKind)} {n:Nat} {x:Str},(x,NameKind.cell)∈names->∃c,(x,c)∈cellsFrom n names []:=by
 intro xx
 induction xx with
 |nil=>
  intro z1 z2 z3
  first|(cases z1;done)|(cases z2;done)|(cases z3;done)
 |cons yy r ih=>
  obtain⟨y,k⟩:=yy
  intro n x h
  unfold cellsFrom
  rcases aC.1 h with e|h
  ·cases e
   simp only[beq_self_eq_true,fa]
   rw[eP]
   exact⟨n,iD _ (by simp)⟩
  ·split
   ·rw[eP]
    obtain⟨c,hc⟩:=ih h
    exact⟨c,j5 _ hc⟩
   ·exact ih h
noncomputable def qo (fs:FS) (names:List (Str×NameKind)):List (Str×NameKind):=names.map λx=>if(x.2==.free&&fs.names.lookup x.1==some .cell)then(x.1,.cell)else x
def iL (fs:FS) (scope:Scope):FS:=⟨qo fs scope.names,(scope.names.filter λx=>x.2==.cell).map (·.1),fs.code,fs.lv⟩
noncomputable def jOk (fs:FS) (names:List (Str×NameKind)) (js:List (Option Nat)):Bool:=
 (List.range js.length).all λk=>match js[k]? with
  |some (some j)=>(names[k]?).any λx=>(fs.names[j]?).any λy=>x.2==.free&&((y.2==.cell||y.2==.free)&&x.1==y.1)
  |_=>true
noncomputable def qk (js:List (Option Nat)) (loc:c8):c8:=js.map λo=>o.bind λj=>(loc[j]?).join
theorem Hj {fs:FS} {names:List (Str×NameKind)} {js:List (Option Nat)} (h:jOk fs names js=true) {loc:c8} {k:Nat} {v:V} (e:(qk js loc)[k]?=some (some v)):
  ∃(j:Nat) (x:Str) (kd:NameKind),names[k]?=some (x,.free)/\fs.names[j]?=some (x,kd)/\(kd=NameKind.cell\/kd=NameKind.free)/\loc[j]?=some (some v):=by
 unfold qk at e
 rw[aQ]at e
 refine x3 (aO.1 e) λo ho e=>?_
 cases o with
 |none=>cases e
 |some j=>
 replace e:(loc[j]?).join=some v:=e
 have hk:=(bO.1 ho).1
 have :=aI.1 h k (eF.2 hk)
 rw[ho]at this
 have el:loc[j]?=some (some v):=by
  cases q:loc[j]? with
  |none=>rw[q]at e;cases e
  |some w=>rw[q]at e;rw[show w=some v from e]
 have⟨x,h1,h⟩:=(Option.any_eq_true _ _).1 this
 have⟨y,h2,h⟩:=(Option.any_eq_true _ _).1 h
 rw[bp,bp,beq_iff_eq,beq_iff_eq,oi,beq_iff_eq,beq_iff_eq]at h
 exact⟨j,x.1,y.2,h.1▸h1,h.2.2▸h2,h.2.1,el⟩
section
variable{fs:FS} {c:Cx fs} {p q r jU:Pt} {st st' st₁:St} {s:Shared} {env:Env} {A:Around} {H':aj}
theorem SR.nest (h:SR c st p):Inv (c.Kp.plus p.s.heap (Cv c.env)) st.H p:=h.inv.plus λa f=>(h.env.fr a f).2
theorem SR.xQ (h:SR c st p) (x:lM p q) (I:Inv (c.Kp.plus p.s.heap (Cv c.env)) H' q):Nx c p ⟨H',st.loc⟩ q:=.of h x (I.minus (PH.o9 h.inv.kp) h.inv.sm) λa o f e=>I.kp a o ((PH.tL f).trans e)
theorem SR.CS (h:SR c st p) {X:Addr->Prop}:JY (c.Kp.plus p.s.heap X):=c.g.mono (PH.o9 h.inv.kp)
theorem LW {M:Model} {scope:Scope} {cl:List (Str×Addr)} {Q:Env->Shared->Prop} (hq:Q {scope:=scope,locals:=s.heap.objs.size,globals:=env.globals,cells:=cellsFrom (s.heap.objs.size+1) scope.names cl,qual:=env.qual,func:=none,code:=env.code,frame:=env.frame,builtins:=env.builtins}
   {s with heap:=pushCells (s.heap.push {cls:=.type "dict",data:=.dict #[]}) scope.names}):
  wpAny M A (newFunctionEnv scope env.globals cl [] env.qual none .none (some env)) Q E s:=by
 simp only[newFunctionEnv,Option.isSome_some,fa]
 refine ai (wpAny_alloc ?_)
 refine ai (wpAny_layCells _ (λname kind cells=>by cases hkc:kind==NameKind.cell<;>simp[hkc]) _ _ _ _ ?_)
 rw[show({s with heap:=s.heap.push {cls:=.type "dict",data:=.dict #[]}}:Shared).heap.objs.size=s.heap.objs.size+1 from fD ..]
 exact av hq
noncomputable def ab6 (scope:Scope) (env:Env) (C:Addr) (cells:List (Str×Addr)):Env:=
 {scope:=relabel scope env,locals:=C,globals:=env.globals,cells:=cells,qual:=env.qual,func:=none,code:=env.code,frame:=env.frame,builtins:=env.builtins}
def jg:=@List.map_congr_left
theorem Iq {scope:Scope} (c:Cx fs):(relabel scope c.env).names=qo fs scope.names:=by
 unfold relabel qo
 refine jg λx U=>?_
 obtain⟨n,k⟩:=x
 show(if(k==NameKind.free&&c.env.scope.kind==ScopeKind.function&&c.env.kindOf n==some NameKind.cell)=true then(n,NameKind.cell)else(n,k))=_
 rw[c.kindOf,c.kind]
 simp
structure nG (fs:FS) (scope:Scope) (js:List (Option Nat)):Prop where
 kind:scope.kind= .function
 co:scope.isCoroutine=false
 nd:(scope.names.map (·.1)).Nodup
 loc:∀x∈scope.names,x.2= .local ->scope.names.lookup x.1=some .local
 js:jOk fs scope.names js=true
 free:(scope.names.all λx=>x.2 !=.free||fs.names.any λy=>y.1==x.1&&(y.2==.cell||y.2==.free))=true
variable{scope:Scope} {js:List (Option Nat)}
def mi:=@bne_self_eq_false
def qK:=@List.any_eq_true
theorem nG.cells (o:nG fs scope js) (c:Cx fs) {x:Str} (hx:(x,NameKind.free)∈scope.names):∃a,c.env.cells.lookup x=some a:=by
 have :=aI.1 o.free _ hx
 simp only[mi,Bool.false_or,qK,bp,beq_iff_eq,oi]at this
 obtain⟨⟨y,k⟩,hm,hy,hk⟩:=this
 obtain⟨j,hj,e⟩:=List.getElem_of_mem hm
 dsimp only at hy hk
 subst hy
 exact c.Eb j y k (by rw[<-e];exact bZ hj) hk
def oH:=@List.getElem?_of_mem
theorem nG.uniq (o:nG fs scope js) {x:Str} {k k':NameKind} (h1:(x,k)∈scope.names) (h2:(x,k')∈scope.names):k=k':=by
 obtain⟨i,hi⟩:=oH h1
 obtain⟨j,hj⟩:=oH h2
 cases pv o.nd hi hj
 exact(Prod.mk.inj (aP (hi.symm.trans hj))).2
def pP (n:Nat) (scope:Scope) (cells:List (Str×Addr)):List (Str×Addr):=cellsFrom (n+1) scope.names (ue cells scope.names [])
theorem eT {n:Nat} {cells:List (Str×Addr)} {x:Str} {a:Addr} (e:(pP n scope cells).lookup x=some a):((x,a)∈cellsFrom (n+1) scope.names []/\(x,NameKind.cell)∈scope.names)\/(cells.lookup x=some a/\(x,NameKind.free)∈scope.names):=by
 unfold pP at e
 rw[eP]at e
 exact(bF.1 (mem_of_lookup e)).imp (λm=>⟨m,wL m⟩) λm=>(ML m).elim (λm=>(bh m).elim) id
theorem xB {n:Nat} {cells:List (Str×Addr)} {x:Str} {a:Addr} (o:nG fs scope js) (hx:(x,NameKind.free)∈scope.names) (e:cells.lookup x=some a):(pP n scope cells).lookup x=some a:=by
 obtain⟨b,hb⟩:=ji (show(x,a)∈pP n scope cells by unfold pP;rw[eP];exact iD _ (DN hx e))
 rcases eT hb with k|k
 ·exact nomatch o.uniq k.2 hx
 ·exact aP (k.1.symm.trans e)▸hb
theorem sD {n:Nat} {cells:List (Str×Addr)} {x:Str} (hx:(x,NameKind.cell)∈scope.names):∃a,(pP n scope cells).lookup x=some a:=
 (pM (n:=n+1) hx).elim λa ha=>ji (show(x,a)∈pP n scope cells by unfold pP;rw[eP];exact j5 _ ha)
theorem ve (p:Pt) (scope:Scope):CellsOk (pushCells (p.s.heap.push {cls:=.type "dict",data:=.dict #[]}) scope.names) (p.s.heap.objs.size+1) (cellsFrom (p.s.heap.objs.size+1) scope.names []):=by
 have :=cellsFrom_ok scope.names (p.s.heap.push {cls:=.type "dict",data:=.dict #[]}) (p.s.heap.objs.size+1) [] ⟨λU U hm=>(nomatch hm),List.Pairwise.nil⟩ (by rw[fD];exact aF _)
 rw[fD]at this
 exact this
theorem lV {x:Str} {a:Addr} (m:(x,a)∈cellsFrom (p.s.heap.objs.size+1) scope.names []):p.s.heap.get? a=none/\a≠p.s.heap.objs.size:=
 have k:=((ve p scope).empty _ _ m).2
 ⟨get_none (Nat.le_of_succ_le k),λe=>absurd (e▸k) (Nat.not_succ_le_self _)⟩
theorem QX {k:Nat} {x:Str} {kd:NameKind} (e:(qo fs scope.names)[k]?=some (x,kd)):(x,kd)∈scope.names\/(x,NameKind.free)∈scope.names:=by
 unfold qo at e
 rw[aQ]at e
 refine x3 (aO.1 e) λy hy e=>?_
 have m:=bI hy
 by_cases z:(y.2==.free&&fs.names.lookup y.1==some .cell)=true
 ·rw[ag z]at e
  have k:y.2= .free:=by simpa using(aX.1 z).1
  exact .inr (by rw[show x=y.1 from(ak Prod.fst e).symm,<-k];exact m)
 ·rw[af z]at e;exact .inl (e▸m)
end
end
section
variable{fs:FS} {c:Cx fs} {p q r jU:Pt} {st st' st₁:St} {scope:Scope} {js:List (Option Nat)}
theorem T7 {scope:Scope} (h:(scope.names.map (·.1)).Nodup):((iL fs scope).names.map (·.1)).Nodup:=by
 have :(iL fs scope).names.map (·.1)=scope.names.map (·.1):=by
  show(qo fs scope.names).map (·.1)=_
  unfold qo
  rw[br]
  refine jg λx U=>?_
  simp only[Function.comp]
  split<;>rfl
 rw[this];exact h
theorem vN {names:List (Str×NameKind)} {k:Nat} {x y:Str} {kd:NameKind} (e:(qo fs names)[k]?=some (x,kd)) (a:names[k]?=some (y,.free)):y=x/\kd≠.local :=by
 unfold qo at e
 rw[aQ,a]at e
 by_cases z:(NameKind.free==NameKind.free&&fs.names.lookup y==some NameKind.cell)=true
 ·have e:=(ag z).symm.trans (aP e)
  cases e;exact⟨rfl,λk=>nomatch k⟩
 ·have e:=(af z).symm.trans (aP e)
  cases e;exact⟨rfl,λk=>nomatch k⟩
def oj:=@List.mem_filter
def Cx.comp (c:Cx fs) (h:SR c st p) (o:nG fs scope js):Cx (iL fs scope) where
 env:=ab6 scope c.env p.s.heap.objs.size (pP p.s.heap.objs.size scope c.env.cells)
 A:=c.A
 Kp:=c.Kp.plus p.s.heap (Cv c.env)
 r:=c.r
 g:=h.CS
 names:=Iq c
 kind:=o.kind
 glob:=c.glob
 bi:=c.bi
 code:=c.code
 co:=o.co
 kl:=(h.nest.free (dT p)).1
 ne x a e:=(eT e).elim (λk=>(lV k.1).2) λk=>nX (h.env.there (.inr ⟨x,k.1⟩))
 apart x y a e1 e2:=by
  rcases eT e1 with m1|m1<;>rcases eT e2 with m2|m2
  ·exact name_of_addr (ve p scope).apart m1.1 m2.1
  ·exact(h.env.there (.inr ⟨y,m2.1⟩)).not (lV m1.1).1
  ·exact(h.env.there (.inr ⟨x,m1.1⟩)).not (lV m2.1).1
  ·exact c.apart x y a m1.1 m2.1
 wr x hx a e:=(eT e).elim (λk=>(h.nest.free (lV k.1).1).1) λk=>by
  obtain⟨y,hy,rfl⟩:=aY.1 hx
  have hy:=oj.1 hy
  have e2:y.2= .cell:=by simpa using hy.2
  exact nomatch o.uniq (show(y.1,NameKind.cell)∈scope.names from e2▸hy.1) k.2
 Eb k x kd e hk:=by
  have fr:(x,NameKind.free)∈scope.names->∃a,(pP p.s.heap.objs.size scope c.env.cells).lookup x=some a:=λm=>(o.cells c m).imp λa=>xB o m
  rcases QX e with m|m
  ·rcases hk with rfl|rfl
   ·exact sD m
   ·exact fr m
  ·exact fr m
def mc:=@pushCells_keeps
theorem SR.comp (h:SR c st p) (o:nG fs scope js):SR (c.comp h o) ⟨st.H,qk js st.loc⟩ (p.hp (pushCells (p.s.heap.push {cls:=.type "dict",data:=.dict #[]}) scope.names) p.s.toks):=by
 have gr:∀a o,p.s.heap.get? a=some o->(pushCells (p.s.heap.push {cls:=.type "dict",data:=.dict #[]}) scope.names).get? a=some o:=λa o e=>mc _ _ a o (aZ _ e)
 have fr:=λ{a} (n:p.s.heap.get? a=none)=>(h.nest.free n).2
 refine⟨h.nest.grow gr,λa f=>?_,λx a e=>?_,⟨_,(Heap.Ns.new p.s.heap (.type "dict")).keeps (mc _ _),λk x v e1 e2=>?_⟩,λk x kd v e1 e2 e3=>?_⟩
 ·rcases f with rfl|⟨x,e⟩
  ·exact fr (dT p)
  ·exact(eT e).elim (λk=>fr (lV k.1).1) λk=>h.env.fr a (.inr ⟨x,k.1⟩)
 ·exact(eT e).elim (λk=>⟨_,((ve p scope).empty _ _ k.1).1⟩) λk=>(h.env.cells x a k.1).imp λU w=>w.keeps gr
 ·obtain⟨j,y,kd,a1,a2,a3,a4⟩:=Hj o.js e2
  exact nomatch(vN e1 a1).2
 ·obtain⟨j,y,kd',a1,a2,a3,a4⟩:=Hj o.js e3
  cases(vN e1 a1).1
  exact(h.env.cv j x kd' v a2 a3 a4).imp λa w=>w.imp λu w=>⟨xB o (bI a1) w.1,w.2.1.keeps gr,w.2.2.mono ⟨λU U e=>e,bY _⟩⟩
noncomputable abbrev qx (es:List Expr) (env:Env):Sem Bool:=forIn es true λc r=>if r=true then do let ok<-isTrue c env (eval c env);pure (ForInStep.yield ok)else pure (ForInStep.yield r)
def gF (fs:FS) (es:List Expr) (d:DT):Prop:=∀⦃c:Cx fs⦄ ⦃p:Pt⦄ ⦃st:St⦄,SR c st p->Ok (d st) λv st'=>gw c p (qx es c.env) st' λU b=>b=v
noncomputable def dp:DT:=λst=>some (true,st)
theorem aa9:gF fs [] dp:=by
 intro c p st h;exact .yes λU U hk=>wpAny_tests_nil (hk _ _ h.same rfl)
theorem aa8 {e:Expr} {d:DT} (hd:rO fs e d):gF fs [e] d:=by
 intro c p st h;exact .of λb st' q U U hk=>wpAny_tests_one (hd h q hk)
noncomputable def gh (da:DA) (dt:DT) (de:bJ->St->Option (bJ×St)):aq->bJ->St->Option (bJ×St)
 |[],acc,st=>some (acc,st)
 |v::vs,acc,st=>(da v st).bind λst₁=>(dt st₁).bind λx=>if x.1 then(de acc x.2).bind λy=>gh da dt de vs y.1 y.2 else gh da dt de vs acc x.2
def u9 (c:Cx fs) (X:Addr->Prop) (D:Addr) (de:bJ->St->Option (bJ×St)) (ELEM:(Shared->Prop)->Shared->Prop):Prop:=
 ∀⦃p:Pt⦄ ⦃st:St⦄ ⦃acc:bJ⦄,SR c st p->(∀b,X b->Own c p b)->OR p D acc->∀⦃r:bJ×St⦄,de acc st=some r->∀⦃K:Shared->Prop⦄,(∀q,Nx c p r.2 q->OR q D r.1->(∀b o,X b->b≠D->p.s.heap.get? b=some o->q.s.heap.get? b=some o)->K q.s)->ELEM K p.s
section
abbrev gf:=Internal.St->Option (bJ×Internal.St)
variable{dA:Expr} {ifs:List Expr} {I D:Addr} {wr:List Addr} {vs:aq} {T:Nat->Heap->Prop} {da:DA} {dt:DT} {de:bJ->gf} {ELEM:(Shared->Prop)->Shared->Prop} {rr:bJ×St}
structure CSt (c:Cx fs) (p:Pt) (wr:List Addr) (D:Addr) (T:Nat->Heap->Prop) (i:Nat) (q:Pt) (st:St) (acc:bJ):Prop where
 nx:Nx c p st q
 at_:T i q.s.heap
 acc:OR q D acc
 own:∀b,b∈wr\/b=D->Own c q b
def CI (c:Cx fs) (p:Pt) (wr:List Addr) (D:Addr) (vs:aq) (T:Nat->Heap->Prop) (da:DA) (dt:DT) (de:bJ->gf) (rr:bJ×St) (n:Nat) (s:Shared):Prop:=
 ∃i q st acc,q.s=s/\vs.length-i=n/\i<=vs.length/\CSt c p wr D T i q st acc/\gh da dt de (vs.drop i) acc st=some rr
theorem Fc {P:Prop} {i:Nat} {acc:bJ} (d:gh da dt de (vs.drop i) acc st=some rr) (le:i<=vs.length) (h0:vs.length=i->(acc,st)=rr->P)
  (h1:∀v bq b dM,vs[i]?=some v->i<vs.length->da v st=some bq->dt bq=some (b,dM)->(b=false->gh da dt de (vs.drop (i+1)) acc dM=some rr)->(b=true->∃y,de acc dM=some y/\gh da dt de (vs.drop (i+1)) y.1 y.2=some rr)->P):P:=by
 cases ed:vs.drop i with
 |nil=>rw[ed]at d;exact h0 (drop_nil le ed) (aP d)
 |cons v rest=>
  refine y3 (drop_cons ed) λhv hd jT=>?_
  rw[ed]at d
  refine x3 (aM.1 d) λbq e2 d=>?_
  obtain⟨⟨b,dM⟩,e3,d⟩:=aM.1 d
  rw[<-hd]at d
  exact h1 v bq b dM hv jT e2 e3 (λe=>by subst e;exact d) λe=>by subst e;exact aM.1 d
theorem xA (it:OY dA I wr vs jU T) (up:Le jU p) (Kc:D∉wr) (ha:jJ fs dA da) (ht:gF fs ifs dt) (he:u9 c (λb=>b∈wr\/b=D) D de ELEM) {R:Shared->Prop} {EN:aJ}
  (hR:∀q (h':Heap) tk,CSt c p wr D T vs.length q rr.2 rr.1->(∀b o,b∉wr->q.s.heap.get? b=some o->h'.get? b=some o)->R {q.s with heap:=h',toks:=tk}) (n:Nat) (s:Shared) (J:CI c p wr D vs T da dt de rr n s):
  wpAny cW c.A (pyNext (.ref I)) (λr b7=>match r with
   |none=>R b7
   |some v=>wpAny cW c.A (letOwnedTupleGo dA (.ref I) v) (λU kj=>wpAny cW c.A (assign dA c.env v) (λU mJ=>
     wpAny cW c.A (qx ifs c.env) (λok j'=>if ok=true then ELEM (λgW=>∃m,m<n/\CI c p wr D vs T da dt de rr m gW) j' else∃m,m<n/\CI c p wr D vs T da dt de rr m j') EN mJ) EN kj) EN b7) EN s:=by
 obtain⟨i,q,st,acc,rfl,hn,le,S,d⟩:=J
 have u1:Le jU q:=⟨PH.le_trans up.le S.nx.a.le,up.pr.trans S.nx.a.pr⟩
 have ow:∀b∈wr,Own c q b:=λb hb=>S.own b (.inl hb)
 refine Fc d le (λen er=>xh it S.nx.h u1 ow (en▸S.at_) λh' tk rz=>hR q h' tk (er▸en▸S) rz) λv bq b dM hv jT e2 e3 d0 d1=>xf it hv S.nx.h u1 ow S.at_ λu b7 go=>go λcG aw hu Bq Yo=>?_
 have iX:∀b,b∈wr\/b=D->Own c cG b:=λb hb=>(S.own b hb).tI aw.a
 refine ha (aw.h.plus iX) hu e2 λU jk bE U=>ht bE.h e3 λok iU fJ D3=>?_
 have x:=aw.a.trans (bE.a.trans fJ.a)
 have nD:=aw.h.minus iX fJ.h
 have kept:∀b,b∈wr\/b=D->∀o,cG.s.heap.get? b=some o->iU.s.heap.get? b=some o:=λb hb o e=>aw.h.held iX fJ.h hb e
 have NA:=it.frame _ _ _ Bq (λb hb=>kept b (.inl hb)) (aw.h.inv.eC.le (PH.le_trans u1.le aw.a.le)) (nD.inv.eC.le (PH.le_trans u1.le x.le))
 have HT:OR iU D acc:=S.acc.mono x.toLe λo e=>kept D (.inr rfl) o (Yo D o Kc e)
 have Bf:∀b,b∈wr\/b=D->Own c iU b:=λb hb=>(S.own b hb).tI x
 have m:=hn▸Nat.sub_succ_lt_self _ _ jT
 subst D3
 cases ok with
 |false=>exact⟨_,m,i+1,iU,dM,acc,rfl,rfl,jT,⟨⟨S.nx.a.trans x,nD⟩,NA,HT,Bf⟩,d0 rfl⟩
 |true=>
  refine x3 (d1 rfl) λy e4 d=>?_
  exact he nD Bf HT e4 λO7 kf ab9 abB=>⟨_,m,i+1,O7,y.2,y.1,rfl,rfl,jT,⟨⟨S.nx.a.trans (x.trans kf.a),kf.h⟩,it.frame _ _ _ NA (λb hb o e=>abB b o (.inl hb) (λz=>Kc (z▸hb)) e) (nD.inv.eC.le (PH.le_trans u1.le x.le)) (kf.h.inv.eC.le (PH.le_trans u1.le (PH.le_trans x.le kf.a.le))),ab9,λb hb=>(Bf b hb).tI kf.a⟩,d⟩
end
end
section
section
variable{A:Around} {s:Shared}
def bV:=@wpAny_mono
theorem sC {prog:Program} {w:World} {elt target iter:Expr} {ifs:List Expr} {scope:Scope} {pos:Pos} {it acc:Value} {env:Env} {R:Result->Shared->Prop} (J:Nat->Shared->Prop)
  (turn:∀n s,J n s->wpAny (model prog w) A (pyNext it) (λr b7=>match r with
   |none=>R (.ok .next) b7
   |some v=>wpAny (model prog w) A (letOwnedTupleGo target it v) (λU kj=>wpAny (model prog w) A (assign target env v) (λU mJ=>
     wpAny (model prog w) A (forIn ifs true λc r=>if r=true then do let ok<-isTrue c env (eval c env);pure (ForInStep.yield ok)else pure (ForInStep.yield r)) (λok j'=>
      if ok=true then wpAny (model prog w) A (eval elt env) (λx bR=>wpAny (model prog w) A (call (.builtin "list.append") [acc,x]) (λU gW=>∃m,m<n/\J m gW) (notedBy (model prog w) A env λe s'=>R (.error e) s') bR) (notedBy (model prog w) A env λe s'=>R (.error e) s') j'
      else∃m,m<n/\J m j') (notedBy (model prog w) A env λe s'=>R (.error e) s') mJ) (notedBy (model prog w) A env λe s'=>R (.error e) s') kj) (notedBy (model prog w) A env λe s'=>R (.error e) s') b7) (notedBy (model prog w) A env λe s'=>R (.error e) s') s)
  (n:Nat) (h:J n s):codeAny (model prog w) A (.compLoop (.ListComp elt [⟨target,iter,ifs,0⟩] scope pos) 0 it acc env) R s:=by
 refine codeAny_loop rfl J (λn s hI=>?_) n h
 show wpAny _ A ((compTurn (.ListComp elt [⟨target,iter,ifs,0⟩] scope pos) 0 it acc env).onRaise (λx=>do noteFrame x env;theTreesLotGoes x)) _ _ s
 refine wpAny_noted ?_
 rw[compTurn_list]
 refine ai (fY (ai (bV (turn n s hI) (λr b7 aV=>?_) λU U h'=>h')))
 cases r with
 |none=>exact av aV
 |some v=>
  refine ai (bV aV (λU kj uG=>ai (bV uG (λU mJ cH=>ai (bV cH (λok j' jI=>?_) λU U h'=>h')) λU U h'=>h')) λU U h'=>h')
  cases ok with
  |false=>exact av ⟨rfl,jI⟩
  |true=>exact ai (ai (bV jI (λx bR nD=>ai (bV nD (λU gW mK=>av (av ⟨rfl,mK⟩)) λU U h'=>h')) λU U h'=>h'))
theorem Fd {prog:Program} {w:World} {kx vx target iter:Expr} {ifs:List Expr} {scope:Scope} {pos:Pos} {it:Value} {D:Addr} {env:Env} {R:Result->Shared->Prop} (J:Nat->Shared->Prop)
  (turn:∀n s,J n s->wpAny (model prog w) A (pyNext it) (λr b7=>match r with
   |none=>R (.ok .next) b7
   |some v=>wpAny (model prog w) A (letOwnedTupleGo target it v) (λU kj=>wpAny (model prog w) A (assign target env v) (λU mJ=>
     wpAny (model prog w) A (forIn ifs true λc r=>if r=true then do let ok<-isTrue c env (eval c env);pure (ForInStep.yield ok)else pure (ForInStep.yield r)) (λok j'=>
      if ok=true then wpAny (model prog w) A (eval kx env) (λkv bR=>wpAny (model prog w) A (eval vx env) (λvv gW=>wpAny (model prog w) A (dictSet D kv vv) (λU jH=>∃m,m<n/\J m jH) (notedBy (model prog w) A env λe s'=>R (.error e) s') gW) (notedBy (model prog w) A env λe s'=>R (.error e) s') bR) (notedBy (model prog w) A env λe s'=>R (.error e) s') j'
      else∃m,m<n/\J m j') (notedBy (model prog w) A env λe s'=>R (.error e) s') mJ) (notedBy (model prog w) A env λe s'=>R (.error e) s') kj) (notedBy (model prog w) A env λe s'=>R (.error e) s') b7) (notedBy (model prog w) A env λe s'=>R (.error e) s') s)
  (n:Nat) (h:J n s):codeAny (model prog w) A (.compLoop (.DictComp kx vx [⟨target,iter,ifs,0⟩] scope pos) 0 it (.ref D) env) R s:=by
 refine codeAny_loop rfl J (λn s hI=>?_) n h
 show wpAny _ A ((compTurn (.DictComp kx vx [⟨target,iter,ifs,0⟩] scope pos) 0 it (.ref D) env).onRaise (λx=>do noteFrame x env;theTreesLotGoes x)) _ _ s
 refine wpAny_noted ?_
 rw[compTurn_dict]
 refine ai (fY (ai (bV (turn n s hI) (λr b7 aV=>?_) λU U h'=>h')))
 cases r with
 |none=>exact av aV
 |some v=>
  refine ai (bV aV (λU kj uG=>ai (bV uG (λU mJ cH=>ai (bV cH (λok j' jI=>?_) λU U h'=>h')) λU U h'=>h')) λU U h'=>h')
  cases ok with
  |false=>exact av ⟨rfl,jI⟩
  |true=>
   exact ai (ai (bV jI (λkv bR nD=>ai (ef (bV nD (λvv gW mK=>ai (fY (ef (bV mK (λU jH Ks=>av ⟨rfl,Ks⟩) λU U h'=>h')))) λU U h'=>h'))) λU U h'=>h'))
end
variable{fs:FS} {c:Cx fs} {p q r jU:Pt} {st st' st₁:St} {scope:Scope} {js:List (Option Nat)} {X:Addr->Prop} {D:Addr} {EN:aJ}
theorem Nx.minus (h:SR c st p) (own:∀b,X b->Own c p b) (n:Nx (h.cx own) p st' q):Nx c p st' q:=⟨n.a,h.minus own n.h⟩
noncomputable def aK (de:Internal.D) (acc:bJ) (st:Internal.St):Option (bJ×Internal.St):=match acc with
 | .list l=>if l.length<16777216 then(de st).map λx=>(.list (l++[x.1]),x.2)else none
 |_=>none
theorem tQ {b:Prop} [Decidable b] {β:Type} {x:Option β} {y:β} (e:(if b then x else none)=some y):b/\x=some y:=by
 by_cases q:b
 ·rw[ag q]at e;exact⟨q,e⟩
 ·rw[af q]at e;cases e
theorem CW {elt:Expr} {de:Internal.D} (he:bX fs elt de) (hD:X D):u9 c X D (aK de) (λK s=>wpAny cW c.A (eval elt c.env) (λx bR=>wpAny cW c.A (call (.builtin "list.append") [.ref D,x]) (λU gW=>K gW) EN bR) EN s):=by
 intro p st acc h own ha r e K hK
 cases acc with
 |tab=>cases e
 |gb b=>cases e
 |dict ks l=>cases e
 |list m=>
  obtain⟨hz,e⟩:=tQ (show(if m.length<16777216 then(de st).map λx=>(bJ.list (m++[x.1]),x.2)else none)=some r from e)
  obtain⟨x,e1,rfl⟩:=aO.1 e
  refine he (h.plus own) e1 λu q n hu=>ha.elim λus w=>w.1.2.elim λk ho=>?_
  have Gp:=h.held own n.h hD ho
  have n₁:=n.minus h own
  rw[<-bS.length w.2]at hz
  refine gL F.slot_list_append (T:="list") ⟨_,Gp,rfl⟩ F.entry_list_append (F.args_list_append_2 _ _) (AutoListH.list_append_list_val_0 D us.toArray k u (by rw[cU];exact lX hz)) ⟨Gp,?_⟩
  obtain⟨k',hm⟩:=qw (λx=>x.push u) Gp
  have sb:=gU q.s.heap D (Obj.mapSeq λx=>x.push u)
  have kp:∀a o,¬a=D->q.s.heap.get? a=some o->(q.s.heap.update D (Obj.mapSeq λx=>x.push u)).get? a=some o:=λa o hn e=>(sb.2 a hn).trans e
  have aw:=n₁.h.own (t:=q.s.toks) (X:=(·=D)) (λb hb=>hb▸(own D hD).tI n.a) kp λb hb=>by cases hb;exact⟨_,hm⟩
  exact hK _ (n₁.tr aw) ⟨us++[u],⟨by simpa using Nat.succ_le_of_lt hz,k',by simpa using hm⟩,(aw.y4 (n₁.y4 w.2)).append (.one (aw.vr hu) .nil)⟩ λb o hb hn e=>kp b o hn (h.held own n.h hb e)
def jY (dk dv:Internal.D) (acc:bJ) (st:Internal.St):Option (bJ×Internal.St):=match acc with
 | .dict ks l=>if ks.length<1048576 then(dk st).bind λx=>(nP x.1).bind λk=>(dv x.2).map λy=>(.dict (bM ks l k y.1).1 (bM ks l k y.1).2,y.2)else none
 |_=>none
theorem BX {ks:aG} {us jF:bw} {k:ar} {u:Value} {ks':aG} (e:stored ((ks.map S).zip us) (S k) u=(ks'.map S).zip jF):((ks'.map S).zip jF).length<=ks.length+1:=by
 have :(stored ((ks.map S).zip us) (S k) u).length<=((ks.map S).zip us).length+1:=by unfold stored;split<;>simp
 rw[e]at this
 exact aA this (iz (by rw[gT,aD];exact l_ ..))
theorem Z5 {kx vx:Expr} {dk dv:Internal.D} (hk:bX fs kx dk) (hv:bX fs vx dv) (hD:X D):
  u9 c X D (jY dk dv) (λK s=>wpAny cW c.A (eval kx c.env) (λkv bR=>wpAny cW c.A (eval vx c.env) (λvv gW=>wpAny cW c.A (dictSet D kv vv) (λU jH=>K jH) EN gW) EN bR) EN s):=by
 intro p st acc h own ha r e K hK
 cases acc with
 |tab=>cases e
 |gb b=>cases e
 |list l=>cases e
 |dict ks m=>
  obtain⟨hz,e⟩:=tQ (show(if ks.length<1048576 then(dk st).bind λx=>(nP x.1).bind λk=>(dv x.2).map λy=>(bJ.dict (bM ks m k y.1).1 (bM ks m k y.1).2,y.2)else none)=some r from e)
  refine x3 (aM.1 e) λx e1 e=>?_
  refine x3 (aM.1 e) λk ek e=>?_
  obtain⟨y,e2,rfl⟩:=aO.1 e
  refine hk (h.plus own) e1 λu q n hu=>hv n.h e2 λu' cG aw rC=>ha.elim λus w=>qi u (show VR q u (.str k)from r8 ek▸hu) λU t=>?_
  have n₁:=(n.tr aw).minus h own
  have hd:uz cG.s.heap.get? D ((ks.map S).zip us):=⟨w.1.1,w.1.2.imp λo z=>⟨h.held own aw.h hD z.1,z.2⟩⟩
  refine wpAny_dictSet_pairs (uC k t) (hd.dictOf (sub_self _)) (λh' hn sb=>?_) (by have :=hd.1.1;simp[cU];omega)
  refine w4 (r_ (x:=k) rC w.2.2 (n₁.y4 w.2.1) hd.nd) λjF q1 q2 q3=>?_
  rw[q1]at hn
  obtain⟨o,es,ep,r1,r2⟩:=hn
  have kp:∀a o,¬a=D->cG.s.heap.get? a=some o->h'.get? a=some o:=λa o hn e=>(sb.2 a hn).trans e
  have bE:=n₁.h.own (t:=cG.s.toks+1) (X:=(·=D)) (λb hb=>hb▸(own D hD).tI n₁.a) kp λb hb=>hb▸⟨o,r1⟩
  exact hK _ (n₁.tr bE) ⟨jF,⟨⟨aA (BX q1) hz,hd.1.2⟩,o,r1,es,ep,r2⟩,bE.y4 q2,q3⟩ λb o hb hn e=>kp b o hn (h.held own aw.h hb e)
theorem Nx.tell {b:Addr} {ob:Obj} (n:Nx c p st q) (o:Own c q b) (hb:p.s.heap.get? b=none) (ho:q.s.heap.get? b=some ob):Nx c p st (q.ad b ob):=
 ⟨n.a.made hb o.eC,n.h.inv.made o.eC ho λU U U w=>o.tF (bI w),n.h.env.to (Le.ad o.eC) (λa f=>⟨(PH.jO λ(e:a=b)=>o.yZ (e▸f)).trans (n.h.env.fr a f).1,(n.h.env.fr a f).2⟩) λU U U e=>e⟩
theorem Nx.liv {b:Addr} {ob:bJ} (n:Nx c p st q) (o:Own c q b) (hb:p.s.heap.get? b=none) (r:OR q b ob):Nx c p ⟨st.H++[some ob],st.loc⟩ (q.lv b):=
 ⟨n.a.lv hb,n.h.inv.lv ⟨o.kp,o.eC,o.tF⟩ r,n.h.env.to Le.lv (λa f=>⟨(n.h.env.fr a f).1,λm=>(bF.1 m).elim (n.h.env.fr a f).2 λm=>o.yZ (a7.1 m▸f)⟩) λU U U e=>e⟩
noncomputable def zp:bJ->V
 | .list l=>.lst l
 | .dict ks l=>.eK ks l
 |_=>.none
theorem OR.told {b:Addr} {ob:bJ} (r:OR p b ob) (nt:ob≠.tab/\∀b,ob≠.gb b):∃o,p.s.heap.get? b=some o/\∀q,Le p q->q.Φ b=some o->VR q (.ref b) (zp ob):=by
 cases ob with
 |list l=>exact r.elim λus w=>w.1.2.elim λn ho=>⟨_,ho,λq le e=>.lst ⟨w.1.1,n,e⟩ (w.2.mono le)⟩
 |dict ks l=>exact r.elim λus w=>w.1.2.elim λo ho=>⟨o,ho.1,λq le e=>⟨b,us,rfl,⟨w.1.1,o,e,ho.2⟩,w.2.1.mono le,w.2.2⟩⟩
 |tab=>exact(nt.1 rfl).elim
 |gb b=>exact(nt.2 b rfl).elim
theorem Own.G6 {D:Addr} {ob:bJ} (h:SR c st q) (a:OR q D ob) (o:Own c q D):ob≠.tab/\∀b,ob≠.gb b:=⟨λe=>(h.inv.live 0 _ h.inv.tb).elim λx k=>o.tF ((show D=G.tb.2 from(e▸a:OR q D .tab).1)▸(show x=G.tb.2 from k.2.2.2.1)▸bI k.1),λb e=>o.tF ((show D=G.tl.2 from(e▸a:OR q D (.gb b)).1)▸bI h.inv.tr)⟩
theorem zU {k:aJ} {ob:bJ} (n:Nx c p st q) (a:OR q D ob) (o:Own c q D) (hD:p.s.heap.get? D=none) (hk:∀a q,Nx c p st q->VR q a (zp ob)->k a q.s):k (.ref D) q.s:=
 (a.told (o.G6 n.h a)).elim λob' w=>hk _ (q.ad D ob') (n.tell o hD w.1) (w.2 _ (Le.ad o.eC) (PH.cB _ _ _))
end
section
variable{fs:FS} {c:Cx fs} {p q r jU:Pt} {st st' st₁:St} {scope:Scope} {js:List (Option Nat)}
theorem Own.inner {b:Addr} (h:SR c st p) (sc:nG fs scope js) (o:Own c p b):Own (c.comp h sc) (p.hp (pushCells (p.s.heap.push {cls:=.type "dict",data:=.dict #[]}) scope.names) p.s.toks) b:=
 ⟨(PH.kE o.yZ).trans o.kp,o.eC,o.tF,λf=>f.elim (λe=>o.ex.not (e▸dT p)) λ⟨x,e⟩=>(eT e).elim (λk=>o.ex.not (lV k.1).1) λk=>o.yZ (.inr ⟨x,k.1⟩),o.ex.imp λob e=>mc _ _ b ob (aZ _ e)⟩
theorem p7 (x:lM p q) {b:Addr} (n:q.s.heap.get? b=none):p.s.heap.get? b=none:=lz.2 λo e=>(x.ex b ⟨o,e⟩).not n
abbrev Uw (c':Cx (iL fs scope)) (ce dA:Expr) (ifs:List Expr) (I D:Addr) (R:Result->Shared->Prop) (ELEM:(aJ)->(Shared->Prop)->Shared->Prop):Prop:=
 ∀(J:Nat->Shared->Prop),(∀n s,J n s->wpAny cW c'.A (pyNext (.ref I)) (λr b7=>match r with
   |none=>R (.ok .next) b7
   |some v=>wpAny cW c'.A (letOwnedTupleGo dA (.ref I) v) (λU kj=>wpAny cW c'.A (assign dA c'.env v) (λU mJ=>
     wpAny cW c'.A (qx ifs c'.env) (λok j'=>if ok=true then ELEM (notedBy cW c'.A c'.env λe s'=>R (.error e) s') (λgW=>∃m,m<n/\J m gW) j' else∃m,m<n/\J m j') (notedBy cW c'.A c'.env λe s'=>R (.error e) s') mJ) (notedBy cW c'.A c'.env λe s'=>R (.error e) s') kj)
     (notedBy cW c'.A c'.env λe s'=>R (.error e) s') b7) (notedBy cW c'.A c'.env λe s'=>R (.error e) s') s)->∀n s,J n s->codeAny cW c'.A (.compLoop ce 0 (.ref I) (.ref D) c'.env) R s
abbrev M0 (ce:Expr):Prop:=∀{A:Around} {it acc:Value} {Ba:Env} {R:Result->Shared->Prop} {s:Shared},codeAny cW A (.compLoop ce 0 it acc Ba) R s->
   wpAny cW A (pyIter it) (λit' s'=>codeAny cW A (.compLoop ce 0 it' acc Ba) R s') (notedBy cW A Ba λx s'=>R (.error x) s') s->codeAny cW A (.compStart ce 0 it acc Ba) R s
section
variable{ce dA iter:Expr} {ifs:List Expr} {G7:Sem Value} {uo:Obj} {u7:bJ} {di:DI} {da:DA} {dt:DT} {de:bJ->gf} {ELEM:Cx (iL fs scope)->Addr->(aJ)->(Shared->Prop)->Shared->Prop} {vs:aq} {rr:bJ×St} {RR:Value->Addr->Result->Shared->Prop} {E:aJ}
theorem mB (h:SR c st p) (sc:nG fs scope js) (hi:k8 fs dA iter di) (ha:jJ (iL fs scope) dA da) (ht:gF (iL fs scope) ifs dt)
  (FU:∀{s:Shared} {Q E:aJ},Q (.ref s.heap.objs.size) {s with heap:=s.heap.push uo}->wpAny cW c.A G7 Q E s) (hfr:uo.isFreed=false) (hOR:∀{p:Pt} {D:Addr},p.s.heap.get? D=some uo->D≠sysModules->OR p D u7)
  (he:∀{c':Cx (iL fs scope)} {X:Addr->Prop} {D:Addr} {EN:aJ},X D->u9 c' X D de (ELEM c' D EN)) (Ym:∀{c':Cx (iL fs scope)} {I D:Addr} {R:Result->Shared->Prop},Uw c' ce dA ifs I D R (ELEM c' D)) (Sm:M0 ce)
  (q1:di st=some (vs,st₁)) (q2:gh da dt de vs u7 ⟨st₁.H,qk js st₁.loc⟩=some rr)
  (abP:∀D C q,Nx c p ⟨rr.2.H,st₁.loc⟩ q->OR q D rr.1->Own c q D->Own c q C->p.s.heap.get? D=none->p.s.heap.get? C=none->C≠D->(∃m,q.s.heap.Ns C m)->RR (.ref D) C (.ok .next) q.s):
  wpAny cW c.A (eval iter c.env) (λx b7=>wpAny cW c.A (pyIter x) (λit mJ=>wpAny cW c.A G7 (λacc j'=>
   wpAny cW c.A (newFunctionEnv scope c.env.globals (ue c.env.cells scope.names []) [] c.env.qual none .none (some c.env)) (λBa bR=>
    codeAny cW c.A (.compStart ce 0 it acc {Ba with scope:=relabel scope c.env}) (RR acc Ba.locals) bR) E j') E mJ) E b7) E p.s:=by
 refine hi h q1 λI wr T c_ hr=>FU (LW ?_)
 have aw:Nx c c_ st₁ (c_.hp (c_.s.heap.push uo) c_.s.toks):=hr.nx.h.grow (pushKeep _ _)
 have UI:(c_.s.heap.push uo).get? c_.s.heap.objs.size=some uo:=bj _ hfr
 show codeAny cW (c.comp aw.h sc).A (.compStart ce 0 (.ref I) (.ref c_.s.heap.objs.size) (c.comp aw.h sc).env) (RR (.ref c_.s.heap.objs.size) (c_.s.heap.push uo).objs.size) ((c_.hp (c_.s.heap.push uo) c_.s.toks).hp (pushCells ((c_.s.heap.push uo).push {cls:=.type "dict",data:=.dict #[]}) scope.names) c_.s.toks).s
 generalize zz:c_.hp (c_.s.heap.push uo) c_.s.toks=cG at aw
 have Z3:(c_.s.heap.push uo)=cG.s.heap:=by rw[<-zz]
 have Z2:c_.s.toks=cG.s.toks:=by rw[<-zz]
 rw[Z3]at UI |-
 rw[Z2]
 have Nb:=dT c_
 generalize c_.s.heap.objs.size=D at Nb UI |-
 have jI:=aw.h.comp sc
 have gr:∀a o,cG.s.heap.get? a=some o->(pushCells (cG.s.heap.push {cls:=.type "dict",data:=.dict #[]}) scope.names).get? a=some o:=λa o e=>mc _ _ a o (aZ _ e)
 have bE:Nx c cG st₁ (cG.hp (pushCells (cG.s.heap.push {cls:=.type "dict",data:=.dict #[]}) scope.names) cG.s.toks):=aw.h.grow gr
 have A1:∀{b},g6 cG b->c_.s.heap.get? b=none->Own c cG b:=λt n=>have f:=hr.nx.h.inv.free n
  ⟨f.1,by rw[<-zz];exact f.2.1,by rw[<-zz];exact f.2.2,hr.nx.h.Bh n,t⟩
 have O9:Own c cG D:=A1 ⟨_,UI⟩ Nb
 have Kj:∀b∈wr,Own c cG b:=λb hb=>(hr.own b hb).tI aw.a
 have Kc:D∉wr:=λm=>(hr.own D m).ex.not Nb
 have up:Le c_ (cG.hp (pushCells (cG.s.heap.push {cls:=.type "dict",data:=.dict #[]}) scope.names) cG.s.toks):=⟨PH.le_trans aw.a.le bE.a.le,aw.a.pr.trans bE.a.pr⟩
 have kept:∀b o,c_.s.heap.get? b=some o->cG.s.heap.get? b=some o:=by rw[<-zz];exact pushKeep _ _
 refine(λloop=>Sm loop (hr.J7.self 0 _ _ _ c.r.handled (hr.J7.frame _ _ _ hr.J2 (λb U o e=>gr _ _ (kept _ _ e)) hr.nx.h.inv.eC (jI.inv.eC.le up.le)) loop)) (Ym (c':=c.comp aw.h sc) _ (xA hr.J7 up Kc ha ht (he (.inr rfl)) λiU h' tk S rz=>?_) _ _
  ⟨0,_,_,u7,rfl,rfl,bN _,⟨jI.same,hr.J7.frame _ _ _ hr.J2 (λb U o e=>gr _ _ (kept _ _ e)) hr.nx.h.inv.eC (jI.inv.eC.le up.le),hOR (gr _ _ UI) (hr.nx.h.inv.uQ Nb),λb hb=>hb.elim (λhb=>(Kj b hb).inner aw.h sc) λhb=>hb▸O9.inner aw.h sc⟩,q2⟩)
 have xa:=bE.a.trans S.nx.a
 have fJ:Nx c p ⟨rr.2.H,st₁.loc⟩ iU:=hr.nx.tr (aw.tr (aw.h.xQ xa S.nx.h.inv))
 have Pa:Nx c p ⟨rr.2.H,st₁.loc⟩ (iU.hp h' tk):=fJ.fin (λb hb=>(Kj b hb).tI xa) rz hr.new
 have back:∀{b},Own c iU b->b∉wr->Own c (iU.hp h' tk) b:=λo hb=>⟨o.kp,o.eC,o.tF,o.yZ,o.ex.imp λob e=>rz _ ob hb e⟩
 have C0:=dT cG
 have abj:=Own.new aw.h C0 bE rfl rfl (jI.env.there (.inl rfl))
 exact abP D _ (iU.hp h' tk) Pa (S.acc.mono ⟨λU U e=>e,bY _⟩ λo e=>rz D o Kc e) (back (O9.tI xa) Kc) (back (abj.tI S.nx.a) λm=>(Kj _ m).ex.not C0) (p7 hr.nx.a Nb) (p7 (hr.nx.a.trans aw.a) C0) (λe=>O9.ex.not (e▸C0))
  (S.nx.h.env.ns.imp λm w=>qz w.1 λo e=>rz _ o (λm=>(Kj _ m).ex.not C0) e)
end
end
section
variable{fs:FS} {c:Cx fs} {p q r jU:Pt} {st st' st₁:St} {scope:Scope} {js:List (Option Nat)}
theorem m_ {s:Shared} {A:Around} {Q E:aJ} (h:Q (.ref s.heap.objs.size) {s with heap:=s.heap.push {cls:=.type "list",data:=.seq #[]}}):wpAny cW A (newList []) Q E s:=mj h
theorem B5 {s:Shared} {A:Around} {Q E:aJ} (h:Q (.ref s.heap.objs.size) {s with heap:=s.heap.push {cls:=.type "dict",data:=.dict #[]}}):wpAny cW A newDict Q E s:=mj h
theorem qF {p:Pt} {D:Addr} (e:p.s.heap.get? D=some {cls:=.type "list",data:=.seq #[]}):OR p D (.list []):=⟨[],⟨bN _,0,e⟩,.nil⟩
theorem IB {p:Pt} {D:Addr} (e:p.s.heap.get? D=some {cls:=.type "dict",data:=.dict #[]}) (n:D≠sysModules):OR p D (.dict [] []):=⟨[],tT e n,.nil,rfl⟩
def a9 (di:DI) (js:List (Option Nat)) (da:DA) (dt:DT) (de:bJ->gf) (u7:bJ) (st:Internal.St):Option (bJ×Internal.St):=
 (di st).bind λx=>(gh da dt de x.1 u7 ⟨x.2.H,qk js x.2.loc⟩).map λy=>(y.1,⟨y.2.H,x.2.loc⟩)
def fS (f:gf):D:=λst=>(f st).map λy=>(zp y.1,y.2)
noncomputable def Fu (f:gf):D:=λst=>(f st).map λy=>(.ref y.2.H.length,⟨y.2.H++[some y.1],y.2.loc⟩)
theorem vt {ob:bJ} {D C:Addr} (n:Nx c p st q) (a:OR q D ob) (oD:Own c q D) (oC:Own c q C) (hC:p.s.heap.get? C=none) (sM:C≠D) {h':Heap} (sb:Heap.SameBut C q.s.heap h'):Nx c p st (q.hp h' q.s.toks)/\OR (q.hp h' q.s.toks) D ob/\Own c (q.hp h' q.s.toks) D:=
 have k:=λo (e:q.s.heap.get? D=some o)=>(sb.2 D sM.symm).trans e
 ⟨n.fin (wr:=[C]) (lE oC) (λb o hb e=>(sb.2 b λz=>hb (z▸.head _)).trans e) (lE hC),a.mono ⟨λU U e=>e,bY _⟩ k,oD.kp,oD.eC,oD.tF,oD.yZ,oD.ex.imp k⟩
section rules
variable{elt kx vx dA iter:Expr} {ifs:List Expr} {pos:Pos} {di:DI} {da:DA} {dt:DT} {de dk dv:D} {k E:aJ} {y:bJ×St}
def uM (c:Cx fs) (p:Pt) (y:bJ×St) (k:aJ):Prop:=∀D q,Nx c p y.2 q->OR q D y.1->Own c q D->p.s.heap.get? D=none->k (.ref D) q.s
theorem uM.told (hk:∀a q,Nx c p y.2 q->VR q a (zp y.1)->k a q.s):uM c p y k:=λD q n a o hD=>zU n a o hD hk
theorem uM.live (hk:∀a q,Nx c p ⟨y.2.H++[some y.1],y.2.loc⟩ q->VR q a (.ref y.2.H.length)->k a q.s):uM c p y k:=λD q n a o hD=>hk _ (q.lv D) (n.liv o hD a) ⟨D,rfl,tK n.h.inv.len⟩
def gj (iter:Expr):Prop:=∀env x,foldedSetIterable iter env x=pure x
def oK:=@wpAny_comprehension_free
def q7:=@codeAny_compStart_list
theorem Oe (sc:nG fs scope js) (hi:k8 fs dA iter di) (ha:jJ (iL fs scope) dA da) (ht:gF (iL fs scope) ifs dt) (he:bX (iL fs scope) elt de) (hs:gj iter) (h:SR c st p) (e:a9 di js da dt (aK de) (.list []) st=some y) (fin:uM c p y k):wpAny cW c.A (eval (.ListComp elt [⟨dA,iter,ifs,0⟩] scope pos) c.env) k E p.s:=by
 refine x3 (aM.1 e) λx q1 e=>?_
 obtain⟨rr,q2,rfl⟩:=aO.1 e
 rw[arm_eval_ListComp]
 exact oK (use:=none) rfl (hs _) (fR λx hx hf=>sc.cells c (hf▸hx)) sc.kind sc.loc (mB (ELEM:=λc' D EN K s=>wpAny cW c'.A (eval elt c'.env) (λx bR=>wpAny cW c'.A (call (.builtin "list.append") [.ref D,x]) (λU gW=>K gW) EN bR) EN s)
  (RR:=λacc C=>compPost cW c.A E none k acc C) h sc hi ha ht m_ rfl (λe U=>qF e) (λhx=>CW he hx) (λJ hJ n s hn=>sC J hJ n hn) q7 q1 q2 λD C q n a oD oC hD hC sM hm=>hm.elim λm hm=>⟨m,hm,λh' sb=>
   have z:=vt n a oD oC hC sM sb;fin D _ z.1 z.2.1 z.2.2 hD⟩)
theorem rLC (sc:nG fs scope js) (hi:k8 fs dA iter di) (ha:jJ (iL fs scope) dA da) (ht:gF (iL fs scope) ifs dt) (he:bX (iL fs scope) elt de) (hs:gj iter):bX fs (.ListComp elt [⟨dA,iter,ifs,0⟩] scope pos) (fS (a9 di js da dt (aK de) (.list []))):=by
 intro c p st h
 exact .map λy e U U hk=>Oe sc hi ha ht he hs h e (.told hk)
theorem aa5 (sc:nG fs scope js) (hi:k8 fs dA iter di) (ha:jJ (iL fs scope) dA da) (ht:gF (iL fs scope) ifs dt) (he:bX (iL fs scope) elt de) (hs:gj iter):bX fs (.ListComp elt [⟨dA,iter,ifs,0⟩] scope pos) (Fu (a9 di js da dt (aK de) (.list []))):=by
 intro c p st h
 exact .map λy e U U hk=>Oe sc hi ha ht he hs h e (.live hk)
theorem rDC (sc:nG fs scope js) (hi:k8 fs dA iter di) (ha:jJ (iL fs scope) dA da) (ht:gF (iL fs scope) ifs dt) (hkx:bX (iL fs scope) kx dk) (hv:bX (iL fs scope) vx dv) (hs:gj iter):bX fs (.DictComp kx vx [⟨dA,iter,ifs,0⟩] scope pos) (fS (a9 di js da dt (jY dk dv) (.dict [] []))):=by
 intro c p st h
 refine .map λy e U E hk=>?_
 refine x3 (aM.1 e) λx q1 e=>?_
 obtain⟨rr,q2,rfl⟩:=aO.1 e
 rw[arm_eval_DictComp]
 exact oK (use:=none) rfl (hs _) (fR λx hx hf=>sc.cells c (hf▸hx)) sc.kind sc.loc (mB (ELEM:=λc' D EN K s=>wpAny cW c'.A (eval kx c'.env) (λkv bR=>wpAny cW c'.A (eval vx c'.env) (λvv gW=>wpAny cW c'.A (dictSet D kv vv) (λU jH=>K jH) EN gW) EN bR) EN s)
  (RR:=λacc C=>compPost cW c.A E none _ acc C) h sc hi ha ht B5 rfl (λe n=>IB e n) (λhx=>Z5 hkx hv hx) (λJ hJ n s hn=>Fd J hJ n hn) codeAny_compStart_dict q1 q2 λD C q n a oD oC hD hC sM hm=>hm.elim λm hm=>⟨m,hm,λh' sb=>
   have z:=vt n a oD oC hC sM sb;uM.told (y:=(rr.1,⟨rr.2.H,x.2.loc⟩)) hk D _ z.1 z.2.1 z.2.2 hD⟩)
theorem Q7 {x:Str} {px y9:Pos} {dx:DA} (sc:nG fs scope js) (hi:k8 fs dA iter di) (ha:jJ (iL fs scope) dA da) (ht:gF (iL fs scope) ifs dt) (he:bX (iL fs scope) elt de) (hx:jJ fs (.Name x px) dx) (hw:swapsWith (.ListComp elt [⟨dA,iter,ifs,0⟩] scope pos) (some (.Name x px)) y9.line (fK fs)=pure true) (hs:gj iter):
  kh fs (.Assign [.Name x px] (.ListComp elt [⟨dA,iter,ifs,0⟩] scope pos) y9) (ba dx (fS (a9 di js da dt (aK de) (.list [])))):=by
 intro c p st h
 refine .bind λv bq e1=>.map λdM q3 k E hk=>?_
 refine x3 (aO.1 e1) λy e ey=>?_
 cases ey
 refine x3 (aM.1 e) λz q1 e=>?_
 obtain⟨rr,q2,rfl⟩:=aO.1 e
 rw[exec_Assign_Name_used _ _ _ _ ((c.zq _ _ _).trans hw)]
 refine ai (fY (ai ?_))
 show wpAny _ c.A (do let _<-comprehension (.ListComp elt [⟨dA,iter,ifs,0⟩] scope pos) scope c.env _ (newList []) false (eval iter c.env) (some (assign (.Name x px) c.env))) _ _ p.s
 refine ai (oK (use:=some (assign (.Name x px) c.env)) rfl (hs _) (fR λx hx hf=>sc.cells c (hf▸hx)) sc.kind sc.loc (mB (ELEM:=λc' D EN K s=>wpAny cW c'.A (eval elt c'.env) (λx bR=>wpAny cW c'.A (call (.builtin "list.append") [.ref D,x]) (λU gW=>K gW) EN bR) EN s)
  (RR:=λacc C=>compPost cW c.A E (some (assign (.Name x px) c.env)) _ acc C) h sc hi ha ht m_ rfl (λe U=>qF e) (λhx=>CW he hx) (λJ hJ n s hn=>sC J hJ n hn) q7 q1 q2 λD C q n a oD oC hD hC sM hm=>?_))
 show wpAny _ c.A (assign (.Name x px) c.env (.ref D)) (λU xD=>∃m,xD.heap.Ns C m/\∀h',Heap.SameBut C xD.heap h'->_) E q.s
 obtain⟨m,hm⟩:=hm
 refine x3 (a.told (oD.G6 n.h a)) λo ho hv=>?_
 have n₁:Nx c p _ (q.ad D o):=n.tell oD hD ho
 have zu:Own c (q.ad D o) C:=⟨oC.kp,(PH.jO sM).trans oC.eC,oC.tF,oC.yZ,oC.ex⟩
 have own:∀b,b=C->Own c (q.ad D o) b:=λb hb=>hb▸zu
 refine hx (n₁.h.plus own) (hv (q.ad D o) (Le.ad oD.eC) (PH.cB _ _ _)) q3 λU cG aw U=>⟨m,qz hm λo e=>n₁.h.held own aw.h rfl e,λh' sb=>?_⟩
 have bE:=n₁.tr (aw.minus n₁.h own)
 exact av (av (hk _ _ (bE.fin (wr:=[C]) (h':=h') (t:=cG.s.toks) (lE (zu.tI aw.a)) (λb o hb e=>(sb.2 b λz=>hb (z▸.head _)).trans e) (lE hC)) rfl))
end rules
end
set_option backward.match.sparseCases false
section
variable{fs:FS} {c:Cx fs} {p q r jU:Pt} {st st' st₁:St}
theorem AL {kindOf:Str->Option NameKind} {x:Str}:∀{binds:List (Str×Value)} {m:Str->mO},x∉binds.map (·.1)->bindL kindOf binds m x=m x:=by
 intro xx
 induction xx with
 |nil=>
  intro _ _
  exact rfl
 |cons yy r ih=>
  obtain⟨n,v⟩:=yy
  intro m h
  have h1:x≠n:=λe=>h (by simp[e])
  have h2:x∉r.map (·.1):=λe=>h (by simp at e |-;exact .inr e)
  unfold bindL
  rw[ih h2]
  split
  ·simp[h1]
  ·rfl
theorem vw {kindOf:Str->Option NameKind} {x:Str} {u:Value} (hk:kindOf x=some .local):∀{binds:List (Str×Value)} {m:Str->mO},(binds.map (·.1)).Nodup->(x,u)∈binds->bindL kindOf binds m x=some u:=by
 intro xx
 induction xx with
 |nil=>
  intro z1 z2 z3
  first|(cases z1;done)|(cases z2;done)|(cases z3;done)
 |cons yy r ih=>
  obtain⟨n,v⟩:=yy
  intro m nd h
  simp only[bo,fZ]at nd
  unfold bindL
  rcases aC.1 h with e|h
  ·cases e
   rw[AL nd.1,ag hk];simp
  ·exact ih nd.2 h
theorem AM {kindOf:Str->Option NameKind} {x:Str}:∀{binds:List (Str×Value)} {m:Str->mO},x∉binds.map (·.1)->bindC kindOf binds m x=m x:=by
 intro xx
 induction xx with
 |nil=>
  intro _ _
  exact rfl
 |cons yy r ih=>
  obtain⟨n,v⟩:=yy
  intro m h
  have h1:x≠n:=λe=>h (by simp[e])
  have h2:x∉r.map (·.1):=λe=>h (by simp at e |-;exact .inr e)
  unfold bindC
  rw[ih h2]
  split
  ·rfl
  ·simp[h1]
theorem JC {kindOf:Str->Option NameKind} {x:Str} {u:Value} (hk:kindOf x≠some .local):∀{binds:List (Str×Value)} {m:Str->mO},(binds.map (·.1)).Nodup->(x,u)∈binds->bindC kindOf binds m x=some u:=by
 intro xx
 induction xx with
 |nil=>
  intro z1 z2 z3
  first|(cases z1;done)|(cases z2;done)|(cases z3;done)
 |cons yy r ih=>
  obtain⟨n,v⟩:=yy
  intro m nd h
  simp only[bo,fZ]at nd
  unfold bindC
  rcases aC.1 h with e|h
  ·cases e
   rw[AM nd.1,af hk];simp
  ·exact ih nd.2 h
noncomputable def xM (scope:Scope) (code:Value) (l:Nat):FS:=⟨scope.names,(scope.names.filter λx=>x.2==.cell).map (·.1),code,l⟩
structure hZ (a:Addr) (fd:FuncData) (body:List Stmt) (n:Nat):Prop where
 obj:∃o,G.K.lookup a=some o/\o.data= .func fd
 body:fd.body= .stmts body
 glob:fd.globals=mainGlobals
 bi:fd.builtins=builtinsNs
 ue:fd.closure=[]
 kind:fd.scope.kind= .function
 co:fd.scope.isCoroutine=false
 gen:fd.scope.isGenerator=false
 code:∃c o vs t,fd.code= .ref c/\G.K.lookup c=some o/\o.data= .fields vs/\vs[1]?=some (.str fd.qualname t)
 nd:(fd.scope.names.map (·.1)).Nodup
 kinds:(fd.scope.names.all λx=>x.2 !=.free)=true
 abi:((fd.scope.names.take n).all λx=>x.2==.local ||x.2==.cell)=true
 bind:∀us:bw,us.length=n->bindArgs fd ⟨us,[]⟩=pure ((fd.scope.names.take n|>.map (·.1)).zip us)
noncomputable abbrev OZ:=aj->aq->Option (V×aj)
def dQ (l:Nat) (a:Addr) (f:OZ):Prop:=∀⦃A:Around⦄ ⦃Kp:PH⦄ ⦃p:Pt⦄ ⦃H:aj⦄ ⦃us:bw⦄ ⦃vs:aq⦄ ⦃w:V×aj⦄,Rm (l+1) A->JY Kp->Inv Kp H p->bS p us vs->f H vs=some w->
 ∀⦃k:aJ⦄ ⦃E:aJ⦄,(∀r q,lM p q->Inv Kp w.2 q->VR q r w.1->k r q.s)->wpAny cW A (call (.ref a) us) k E p.s
noncomputable def tH (n k:Nat) (db:DS) (H:aj) (vs:aq):Option (V×aj):=
 if vs.length=n then(db ⟨H,vs.map some++List.replicate k .none⟩).bind λx=>match x.1 with
  | .ret v=>some (v,x.2.H)
  | .next=>some (.none,x.2.H)
  |_=>none
 else none
theorem oX {β γ:Type}:∀(ns:List β) (us:List γ),(ns.zip us).map (·.1)<+:ns
 |[],us=>by simp
 |n::ns,[]=>by simp
 |n::ns,u::us=>by
  obtain⟨t,ht⟩:=oX ns us
  exact⟨t,by simp only[kR,bo,kP,ht]⟩
theorem KR {β:Type} {ns:List Str} {us:List β} {k:Nat} {x:Str} {u:β} (h1:ns[k]?=some x) (h2:us[k]?=some u):(x,u)∈ns.zip us:=
 bI (gV.2 ⟨h1,h2⟩)
theorem nq {β:Type}:∀{l:List (Str×β)} {x:Str} {b:β},(l.map (·.1)).Nodup->(x,b)∈l->l.lookup x=some b:=by
 intro xx
 induction xx with
 |nil=>
  intro z1 z2 z3 z4
  first|(cases z1;done)|(cases z2;done)|(cases z3;done)|(cases z4;done)
 |cons yy r ih=>
  obtain⟨k,v⟩:=yy
  intro x b nd h
  simp only[bo,fZ]at nd
  rw[bG]
  rcases aC.1 h with e|h
  ·cases e;simp
  ·have :(x==k)=false:=bu.2 λe=>nd.1 (e▸aY.2 ⟨_,h,rfl⟩)
   rw[this];exact ih nd.2 h
theorem Hs {l:Nat} {a:Addr} {fd:FuncData} {body:List Stmt} {n k:Nat} {db:DS} (o:hZ a fd body n) (hb:pR (xM fd.scope fd.code l) body db):dQ l a (tH n k db):=by
 intro A Kp p H us vs w r g I hu q K E hk
 obtain⟨hn,q⟩:=tQ (show(if vs.length=n then _ else none)=some w from q)
 obtain⟨⟨fl,st'⟩,q1,q⟩:=aM.1 q
 refine x3 (o.obj) λob ho hd=>?_
 have hul:=bS.length hu
 obtain⟨cd,oc,cvs,ct,c1,c2,c3,c4⟩:=o.code
 have Na:p.s.heap.CodeRec fd.code fd.qualname:=⟨cd,oc,cvs,ct,c1,I.kp _ _ (g.K _ _ c2),c3,c4⟩
 have U1:((((fd.scope.names.take n).map (·.1)).zip us).map (·.1)).Nodup:=by
  have e1:(((fd.scope.names.take n).map (·.1)).zip us).map (·.1)<+:(fd.scope.names.take n).map (·.1):=oX _ _
  rw[List.map_take]at e1 |-
  exact(e1.sublist.trans (List.take_sublist _ _)).nodup o.nd
 have kindAt:∀{x:Str} {kd:NameKind},(x,kd)∈fd.scope.names->fd.scope.names.lookup x=some kd:=λh=>nq o.nd h
 have cellAt:∀{x:Str},(x,NameKind.cell)∈fd.scope.names->∃b,(cellsFrom (p.s.heap.objs.size+1) fd.scope.names []).lookup x=some b:=λh=>(pM h).elim λU k=>ji k
 refine wpAny_call (codeAny_call_cells r.dep (I.kp _ _ (g.K _ _ ho)) hd (g.lim _ I.kp) Na o.body (o.bind us (hul.trans hn)) o.ue (λx hx=>?_) (λb7 x=>?_) o.co o.gen o.kind)
 ·obtain⟨i,hi⟩:=oH hx
  obtain⟨h1,_⟩:=gV.1 (show _=some (x.1,x.2)from hi)
  rw[aQ]at h1
  refine x3 (aO.1 h1) λy h2 h3=>?_
  have hm:=bI h2
  have JP:(x.1,y.2)∈fd.scope.names:=h3▸kW hm
  rcases mq.1 (aI.1 o.abi _ hm)with e|e
  ·exact .inl (kindAt (eq_of_beq e▸JP))
  ·have JP:=eq_of_beq e▸JP
   exact .inr ⟨kindAt JP,(cellAt JP).elim λb e=>ak Option.isSome e⟩
 ·have keep:=x.toInCall.keep
  obtain⟨hh,tk,rfl⟩:=x.toInCall.same
  have frC:∀{y b},(callEnvC fd p.s.heap.objs.size a).cells.lookup y=some b->p.s.heap.get? b=none/\b≠p.s.heap.objs.size:=λ{y b} e=>
   have :=x.above y b (mem_of_lookup e)
   ⟨get_none (lX this),Nat.ne_of_gt this⟩
  have Dq:∀{y kd},(y,kd)∈fd.scope.names->kd= .cell\/kd= .free->kd= .cell:=λhm hk=>hk.elim id λe=>by
   subst e;exact nomatch aI.1 o.kinds _ hm
  have Ow:∀{i:Nat} {y:Str} {kd:NameKind} {w:V},fd.scope.names[i]?=some (y,kd)->(vs.map some++List.replicate k none)[i]?=some (some w)->∃u,VR p u w/\(y,u)∈((fd.scope.names.take n).map (·.1)).zip us:=λ{i y kd w} h1 h2=>by
   by_cases hi:i<vs.length
   ·rw[ly (by rw[aD];exact hi),aQ]at h2
    refine x3 (aO.1 h2) λw' h3 h4=>?_
    exact(hu.get h3).imp λu z=>⟨aP h4▸z.2,KR (k:=i) (by rw[aQ,List.getElem?_take_of_lt (hn▸hi),h1];rfl) z.1⟩
   ·rw[oM (by rw[aD];exact ja hi)]at h2
    exact nomatch(List.mem_replicate.1 (bI h2)).2
  have xg:lM p (p.hp hh tk):=.grow keep
  have PU:Inv Kp H (p.hp hh tk):=I.grow keep
  let c:Cx (xM fd.scope fd.code l):={
   env:=callEnvC fd p.s.heap.objs.size a,A:=A.deeper (callEnvC fd p.s.heap.objs.size a),Kp:=Kp,g:=g,names:=rfl,kind:=o.kind,glob:=o.glob,bi:=o.bi,code:=rfl,co:=o.co
   r:=⟨r.handled,aA (by show A.depth+1+10*(l+1)<=A.depth+10*(l+1+1);exact Wx) r.depth,aA (by show A.units+3+100*(l+1)<=A.units+100*(l+1+1);exact Ww) r.units⟩
   kl:=(I.free (dT p)).1
   ne:=λy b e=>(frC e).2
   apart:=λy z b e1 e2=>name_of_addr x.apart (mem_of_lookup e1) (mem_of_lookup e2)
   wr:=λy hy b e=>(I.free (frC e).1).1
   Eb:=λi y kd e U8=>cellAt (Dq (bI e) U8▸bI e)}
  have sr:SR c ⟨H,vs.map some++List.replicate k none⟩ (p.hp hh tk):=by
   refine⟨PU,λb f=>?_,λy b e=>⟨_,x.cell y b e⟩,⟨_,x.toInCall.ns,λi y w e1 e2=>?_⟩,λi y kd w e1 e2 e3=>?_⟩
   ·rcases f with rfl|⟨y,e⟩
    ·exact(I.free (dT p)).2
    ·exact(I.free (frC e).1).2
   ·exact(Ow e1 e2).imp λu z=>⟨vw (kindAt (bI e1)) U1 z.2,.inl (xg.vr z.1)⟩
   ·have hm:=Dq (bI e1) e2▸bI e1
    exact(Ow e1 e3).elim λu z=>(cellAt hm).imp λb hb=>⟨u,hb,JC (kindOf:=(callEnvC fd p.s.heap.objs.size a).kindOf) (by rw[show(callEnvC fd p.s.heap.objs.size a).kindOf y=some .cell from kindAt hm];exact λk=>nomatch k) U1 z.2▸x.cell y b hb,xg.vr z.1⟩
  refine hb sr q1 λf cG aw hf=>?_
  cases fl with
  |next=>cases hf;cases q;exact hk _ _ (xg.trans aw.a) aw.h.inv rfl
  |ret w=>obtain⟨u,rfl,rC⟩:=hf;cases q;exact hk _ _ (xg.trans aw.a) aw.h.inv rC
  |brk=>cases q
  |cont=>cases q
noncomputable def aN (f:OZ) (ds:DL):D:=λst=>(ds st).bind λx=>(f x.2.H x.1).map λy=>(y.1,⟨y.2,x.2.loc⟩)
theorem Rd {l:Nat} {x:Str} {np pos:Pos} {a:Addr} {fd:FuncData} {body:List Stmt} {n:Nat} {e:Expr} {es:List Expr} {f:OZ} {ds:DL} (ha:G.gl x=some (.ref a)) (o:hZ a fd body n) (hf:dQ l a f) (hl:l+1<=fs.lv) (hs:pE fs (e::es) ds) (hx:d6 fs x) (hp:cK pos e es):
  bX fs (.Call (.Name x np) (e::es) [] pos) (aN f ds):=by
 intro c p st h
 refine .bind λvs st₁ e1=>.map λw e2 k E hk=>o.obj.elim λob mH=>jB (uZ h hx ha (callWith_function (first:=[]) (o:=ob) (fd:=fd) ?_))
 have U3:=hs pos h e1
 rw[hp.1]at U3 |-
 exact evalArgs_plain (U3 λus q n hu=>⟨⟨n.h.inv.kp _ _ (c.g.K _ _ mH.1),mH.2⟩,hf (c.r.le hl) n.h.CS n.h.nest hu e2 λr cG x I hr=>hk _ _ (n.tr (n.h.xQ x I)) hr⟩)
structure Eg (fI fC:Addr):Prop where
 makes:makesIn G.K G.C=true
 init:findIn G.K (.ref G.C) "__init__"=some (some (.ref fI))
 NQ:typeIn G.K (.ref fI)=some (.type "function")
 gat:findIn G.K (.ref G.C) "__getattribute__"=some (some (.builtin "object.__getattribute__"))
 NZ:findIn G.K (.ref G.C) "__getattr__"=some none
 cmp:findIn G.K (.ref G.C) "compare"=some (some (.ref fC))
 V7:typeIn G.K (.ref fC)=some (.type "function")
 sel:findIn G.K (.ref G.C) "comp_select_list"=some none
 sat:findIn G.K (.ref G.C) "__setattr__"=some (some (.builtin "object.__setattr__"))
 plain:plainOver G.K G.C=true
 Nw:takerIn G.K G.C "comp_select_list"=some none
 VU:(clsIn G.K G.C).any (·.hasDict)=true
 NT:hasDictIn G.K G.C=true
theorem JY.in {Kp:PH} {h:Heap} (g:JY Kp) (k:Sub Kp h):G.K.In h:=λa o e=>k a o (g.K a o e)
theorem tP {a d:Addr} {es:List DictEntry} {n:Nat} {h:Heap} (e1:h.get? a=some (instObj G.C d)) (e2:h.get? d=some (dictOf es n)):InstAt h a (instObj G.C d) G.C (some (dictOf es n)):=⟨e1,rfl,rfl,e2⟩
noncomputable def asC:V->Option V
 | .cmp k=>some k
 |_=>none
theorem Ut (a:V):(asC a).elim True λx=>a= .cmp x:=by cases a<;>first|exact rfl|exact True.intro
theorem BQ {a k:V} (h:asC a=some k):a= .cmp k:=(ak (λo=>Option.elim o True λx:V=>a=V.cmp x) h).mp (Ut a)
def KA (d:D):D:=λst=>(d st).bind λx=>(asC x.1).map λv=>(v,x.2)
theorem Em {u:Value} {v:V} (h:VR p u v):handedIn u=true:=by
 cases v with
 |none=>exact Kl u h rfl
 |bool b=>exact ur u h rfl
 |int i=>exact pO u h λU=>rfl
 |str x=>exact qi u h λU U=>rfl
 |tup l=>exact qh u h λU U U U=>rfl
 |lst l=>exact xJ u h λU U U U=>rfl
 |eK ks l=>exact xN u h λU U U U U=>rfl
 |cmp k=>exact KC u h λU U U U=>rfl
 |ref n=>exact uj u h λU U=>rfl
 |AP l=>exact h.elim λa w=>w.1▸rfl
 |lam=>exact h.elim
theorem aaW {n:Str} {np pos:Pos} {fI fC:Addr} {d:D} (o:Eg fI fC) (hd:bX fs (.Name n np) d):bX fs (.Attribute (.Name n np) "comp_select_list" pos) (KA d):=by
 intro c p st h
 exact .bind λa st₁ e1=>.map λk e2 U U hk=>Attribute_name (hd h e1 λu q n hu=>KC u (show VR q u (.cmp k)from BQ e2▸hu) λx ku ⟨dx,es,m,i1,i2,i3,i4⟩ hv=>
  get_value (c.g.in n.h.inv.kp) (tP (n.h.inv.eC _ _ i1) (n.h.inv.eC _ _ i2)) o.gat (findObj_own o.NT o.sel rfl (by rw[lookIn_dict];exact i3)) (Em hv) (have aw:=n.h.tok _;hk _ _ (n.tr aw) (aw.vr hv)))
theorem vY {env:Env} {A:Around} {s:Shared} {E:aJ} {prog:Program} {w:World} {o:Expr} {name:Str} {apos pos:Pos} {args:List Expr} {Q:aJ}
  (Yv:attributeBase o name env (eval o env)=eval o env)
  (A5:((backTo pos (starEach args env)).all (λx=>!x.1)&&(backToKw pos (keywordEach [] env)).all (λx=>x.1.isSome)
   &&decide (args.length+([]:List Keyword).length+(if([]:List Keyword).isEmpty then 0 else 1)<30))=true)
  (Yn:(apos.endLine==pos.line)=true)
  (h:wpAny (model prog w) A (eval o env) (λov b7=>∃f first,(∀(pl:Sem Bool) (Q:Value×bw->Shared->Prop),Q (f,first) b7->wpAny (model prog w) A (getMethod ov name pl) Q E b7)/\wpAny (model prog w) A (callWith pos f first (backTo pos (starEach args env)) []) Q E b7) E s):
  wpAny (model prog w) A (eval (.Call (.Attribute o name apos) args [] pos) env) Q E s:=by
 rw[arm_eval_Call,Yv]
 refine ai (bV h (λov b7 aV=>?_) λU U e=>e)
 refine x4 (aV) λf first hm hc=>?_
 refine ai (fY ?_)
 have Yr:methodCallForm (args.length+([]:List Keyword).length) (backTo pos (starEach args env)) (backToKw pos (keywordEach [] env))=true:=A5
 have abK:methodCallPos true o env apos pos=pure pos:=by unfold methodCallPos;simp[Yn]
 unfold methodCall
 rw[Yr]
 refine ai (ef (hm _ _ ?_))
 exact ai (wpAny_of_eq abK hc)
def uJ (f:OZ) (d:D) (ds:DL):D:=λst=>(d st).bind λx=>(asC x.1).bind λk=>(ds x.2).bind λy=>(f y.2.H (.cmp k::y.1)).map λz=>(z.1,⟨z.2,y.2.loc⟩)
def N2 (pos:Pos) (args:List Expr):Prop:=∀env,((backTo pos (starEach args env)).all (λx=>!x.1)&&(backToKw pos (keywordEach [] env)).all (λx=>x.1.isSome)&&decide (args.length+([]:List Keyword).length+(if([]:List Keyword).isEmpty then 0 else 1)<30))=true
theorem Xs {l:Nat} {o e:Expr} {es:List Expr} {apos pos:Pos} {fI fC:Addr} {fd:FuncData} {body:List Stmt} {n:Nat} {f:OZ} {d:D} {ds:DL} (ck:Eg fI fC) (fo:hZ fC fd body n) (hf:dQ l fC f) (hl:l+1<=fs.lv) (hd:bX fs o d) (hs:pE fs (e::es) ds) (ha:qu o "compare" apos pos) (A5:N2 pos (e::es)) (he:kq e es):
  bX fs (.Call (.Attribute o "compare" apos) (e::es) [] pos) (uJ f d ds):=by
 intro c p st h
 refine .bind λa st₁ e1=>.jn λk ea=>.bind λvs bq e2=>.map λw e3 K E hk=>fo.obj.elim λob mH=>vY (ha.1 _) (A5 _) ha.2 (hd h e1 λu q n hu=>?_)
 refine KC (P:=λu=>VR q u (.cmp k)->∃f first,(∀(pl:Sem Bool) (Q:Value×bw->Shared->Prop),Q (f,first) q.s->wpAny cW c.A (getMethod u "compare" pl) Q E q.s)/\wpAny cW c.A (callWith pos f first (backTo pos (starEach (e::es) c.env)) []) K E q.s) u (show VR q u (.cmp k)from BQ ea▸hu) (λx ku ⟨dx,es',m,i1,i2,i3,i4⟩ hv hu=>?_) (BQ ea▸hu)
 refine⟨.ref fC,[.ref x],λpl Q hq=>method_fn (c.g.in n.h.inv.kp) (tP (n.h.inv.eC _ _ i1) (n.h.inv.eC _ _ i2)) ck.gat ck.NZ ck.cmp ck.V7 (by show(lookIn _ (dictOf es' m)).map _=_;rw[lookIn_dict,i4];rfl) hq,callWith_function (o:=ob) (fd:=fd) ?_⟩
 have U3:=hs pos n.h e2
 rw[he]at U3 |-
 exact evalArgs_plain (U3 λus cG aw gc=>⟨⟨aw.h.inv.kp _ _ (c.g.K _ _ mH.1),mH.2⟩,hf (c.r.le hl) aw.h.CS aw.h.nest (.one (aw.vr hu) gc) e3 λr jk x I hr=>hk _ _ (n.tr (aw.tr (aw.h.xQ x I))) hr⟩)
noncomputable def funAt (body:List Stmt) (i:Nat):List Stmt×Scope:=match body[i]? with
 |some (.FunctionDef _ _ b _ _ _ sc _ _ _)=>(b,sc)
 |_=>([],default)
def G_ (body:List Stmt) (i j:Nat):List Stmt×Scope:=match body[i]? with
 |some (.ClassDef _ _ _ b _ _ _ _ _ _ _)=>funAt b j
 |_=>([],default)
end
set_option backward.match.sparseCases true
section
variable{fs:FS} {c:Cx fs} {p q r jU:Pt} {st st' st₁:St} {H':aj}
def vC:=@Nat.lt_add_of_pos_right
theorem X6 {l:Nat} {fI fC:Addr} {fd:FuncData} {p1 p2 p3 p4:Pos} {ku:Value} {v:V} {k E:aJ} (ck:Eg fI fC) (fo:hZ fI fd [.Assign [.Attribute (.Name "self" p1) "comp_select_list" p2] (.Name "comp_select_list" p3) p4] 2)
  (rX:fd.scope.names=[((Str.ofString "self"),NameKind.local),((Str.ofString "comp_select_list"),NameKind.local)]) (hl:l+1<=fs.lv) (h:SR c st p) (hv:VR p ku v) (hK:∀a q,Nx c p st q->VR q a (.cmp v)->k a q.s):wpAny cW c.A (call (.ref G.C) [ku]) k E p.s:=by
 refine wpAny_call ?_
 have X:G.K.In p.s.heap:=c.g.in h.inv.kp
 obtain⟨Φ,ρ,hh,gg,dd,tt,oo⟩:=p
 refine make_core (makes_of X ck.makes) (looks_findIn X ck.init) (λself=>bind_fn X self ck.NQ) (.inl rfl) ?_
 have g1:∀b o,hh.get? b=some o->((hh.push emptyDict).push (instObj G.C hh.objs.size)).get? b=some o:=λb o e=>aZ _ (aZ _ e)
 have hx:((hh.push emptyDict).push (instObj G.C hh.objs.size)).get? (hh.objs.size+1)=some (instObj G.C hh.objs.size):=by
  have :=bj (hh.push emptyDict) (o:=instObj G.C hh.objs.size) rfl
  rwa[fD]at this
 have hd:((hh.push emptyDict).push (instObj G.C hh.objs.size)).get? hh.objs.size=some emptyDict:=aZ _ (bj _ rfl)
 generalize hS:(hh.push emptyDict).push (instObj G.C hh.objs.size)=aV at g1 hx hd
 have Gh:aV.objs.size=hh.objs.size+2:=by rw[<-hS,fD,fD]
 refine x3 (fo.obj) λob ho abQ=>?_
 obtain⟨cd,oc,cvs,ct,c1,c2,c3,c4⟩:=fo.code
 have lift:∀a o,G.K.lookup a=some o->aV.get? a=some o:=λa o e=>g1 _ _ (X a o e)
 have Yj:(c.A.under (.builtin "type.__call__" ⟨.ref G.C::[ku],[]⟩)).depth<recursionLimit:=by
  have :=(c.r.le hl).depth
  show c.A.depth+_<1000
  have e:(Code.builtin "type.__call__" ⟨.ref G.C::[ku],[]⟩).weight=1:=by kernel_rfl
  exact adj this e
 have hnl:Heap.NoLimit aV:=(c.g.lim hh h.inv.kp).keeps g1
 have Na:aV.CodeRec fd.code fd.qualname:=⟨cd,oc,cvs,ct,c1,lift _ _ c2,c3,c4⟩
 have hb:bindArgs fd ⟨[.ref (hh.objs.size+1),ku],[]⟩=pure [((Str.ofString "self"),.ref (hh.objs.size+1)),((Str.ofString "comp_select_list"),ku)]:=by
  rw[fo.bind [.ref (hh.objs.size+1),ku] rfl,rX];rfl
 refine codeAny_call_cells (s:=⟨aV,gg,dd,tt,oo⟩) Yj (lift _ _ ho) abQ hnl Na fo.body hb fo.ue (λy hy=>?_) (λb7 xc=>?_) fo.co fo.gen fo.kind
 ·rw[rX]
  simp only[aC,bh,or_false]at hy
  rcases hy with rfl|rfl<;>exact .inl rfl
 ·have Ab:(callEnvC fd aV.objs.size fI).kindOf (Str.ofString "self")=some .local :=by show fd.scope.names.lookup _=_;rw[rX];rfl
  have Dw:(callEnvC fd aV.objs.size fI).kindOf (Str.ofString "comp_select_list")=some .local :=by show fd.scope.names.lookup _=_;rw[rX];rfl
  have X7:bindL (callEnvC fd aV.objs.size fI).kindOf [((Str.ofString "self"),.ref (hh.objs.size+1)),((Str.ofString "comp_select_list"),ku)] (λU=>none) (Str.ofString "self")=some (.ref (hh.objs.size+1)):=vw Ab (show([(Str.ofString "self"),(Str.ofString "comp_select_list")]:List Str).Nodup by decide) (by simp)
  have aby:bindL (callEnvC fd aV.objs.size fI).kindOf [((Str.ofString "self"),.ref (hh.objs.size+1)),((Str.ofString "comp_select_list"),ku)] (λU=>none) (Str.ofString "comp_select_list")=some ku:=vw Dw (show([(Str.ofString "self"),(Str.ofString "comp_select_list")]:List Str).Nodup by decide) (by simp)
  have keep:=xc.toInCall.keep
  have ns:=xc.toInCall.ns
  obtain⟨cH,tk,rfl⟩:=xc.toInCall.same
  have F:Fr hh (callEnvC fd aV.objs.size fI).locals cH _:=⟨ns,λb o e=>keep _ _ (g1 _ _ e),by show hh.objs.size<=aV.objs.size;exact adi Gh⟩
  have N:News hh (callEnvC fd aV.objs.size fI).locals cH ([(hh.objs.size+1,instObj G.C hh.objs.size)]++(hh.objs.size,dictOf [] 0)::[]):=by
   intro p hp
   simp only[kP,jA,aC,bh,or_false]at hp
   have hL:(callEnvC fd aV.objs.size fI).locals=aV.objs.size:=rfl
   rcases hp with rfl|rfl
   ·exact⟨keep _ _ hx,by rw[hL,Gh];exact df (jb _),get_none (gM _)⟩
   ·exact⟨keep _ _ hd,by rw[hL,Gh];exact df (vC (by decide)),get_none (aF _)⟩
  have WK:G.K.In cH:=λa o e=>keep _ _ (lift a o e)
  refine oB (plainObj_wpAny_Assign_Attribute (NameLC xc fo.kind Dw aby (NameLC xc fo.kind Ab X7 ?_ (by decide)) (by decide)))
  refine set_plain WK (tP (keep _ _ hx) (keep _ _ hd)) ck.sat ?_
  refine osa_dict (s:=⟨cH,gg,dd,tk+1,oo⟩) (pre:=[(hh.objs.size+1,instObj G.C hh.objs.size)]) (post:=[]) (dx:=hh.objs.size) (od:=dictOf [] 0) (C:=G.C) F N WK (tP (keep _ _ hx) (keep _ _ hd)) rfl ck.plain ck.Nw ck.VU rfl (λp hp=>?_) (λp hp=>by cases hp) (putName_dict _ _ _ _ _ _) rfl (by show 1<=1000;decide) λh' F' N'=>?_
  ·cases a7.1 hp;exact Nat.succ_ne_self _
  ·refine ou ⟨rfl,?_⟩
   have e1:=(N' _ (j5 _ (a7.2 rfl))).1
   have e2:=(N' _ (iD _ cV)).1
   have kk:∀a o,hh.get? a=some o->h'.get? a=some o:=F'.keep
   have nd:hh.get? hh.objs.size=none:=get_none (aF _)
   have nx:hh.get? (hh.objs.size+1)=none:=get_none (gM _)
   have n₁:=h.made (h':=h') (t:=tk+1+1) kk nd e2
   have f:=h.inv.free nx
   have aw:=n₁.tell ⟨f.1,(PH.jO (Nat.succ_ne_self hh.objs.size)).trans f.2.1,f.2.2,h.Bh nx,⟨_,e1⟩⟩ nx e1
   exact hK _ _ aw ⟨hh.objs.size+1,ku,rfl,⟨hh.objs.size,_,_,PH.cB _ _ _,(PH.jO (df (jb _))).trans (PH.cB _ _ _),rfl,rfl⟩,aw.vr hv⟩
noncomputable def OU (d:D):D:=λst=>(d st).bind λx=>some (.cmp x.1,x.2)
theorem rMk {l:Nat} {x:Str} {np pos:Pos} {e:Expr} {d:D} {fI fC:Addr} {fd:FuncData} {p1 p2 p3 p4:Pos} (hc:G.gl x=some (.ref G.C)) (ck:Eg fI fC) (fo:hZ fI fd [.Assign [.Attribute (.Name "self" p1) "comp_select_list" p2] (.Name "comp_select_list" p3) p4] 2)
  (rX:fd.scope.names=[((Str.ofString "self"),NameKind.local),((Str.ofString "comp_select_list"),NameKind.local)]) (hl:l+1<=fs.lv) (hd:bX fs e d) (hk:keepIn G.K (.ref G.C)=true) (hx:d6 fs x) (he:kq e []):bX fs (.Call (.Name x np) [e] [] pos) (OU d):=by
 intro c p st h
 refine .bind λa st₁ e1=>.yes λk E K=>jB (uZ h hx hc (callWith_K (first:=[]) (c.g.in h.inv.kp) hk ?_ (he _) rfl))
 rw[he]
 exact iI (hd h e1 λu q n hu=>jy ⟨c.g.in n.h.inv.kp,X6 ck fo rX hl n.h hu λU U aw=>K _ _ (n.tr aw)⟩)
theorem Xj {x:Str} {pos:Pos} {u:Value} {v:V} (hb:G.gl x=some u) (hv:∀{p:Pt},VR p u v) (hx:d6 fs x):bX fs (.Name x pos) (dC v):=by
 intro c p st h
 exact .yes λU U hk=>uZ h hx hb (hk _ _ h.same hv)
def yg (S:Int->Bool) (d:D):D:=λst=>(d st).bind λx=>(mE x.1).map λi=>(.bool (S i),x.2)
theorem Rb {x:Str} {np pos:Pos} {e:Expr} {a:Addr} {S:Int->Bool} {n:Nat} {d:D} (hb:G.gl x=some (.ref a)) (hS:∀h,G.K.In h->h.SetOf (intKind G.prog G.w) a S n) (hd:bX fs e d) (hx:d6 fs x) (hm:behindInMarks .In (.Name x np)=false):bX fs (.Compare e [.In] [.Name x np] pos) (yg S d):=by
 intro c p st h
 exact .bind λw st₁ e1=>.map λi e2 U U hk=>wpAny_Compare1 (hd h e1 λu q n hu=>uZ n.h hx hb (pO u (show VR q u (.int i)from jN e2▸hu) λt=>wpAny_inSet_of (knd:=intKind G.prog G.w) (k:=i) (by simp[intKind,Value.isInt]) rfl (hS _ (c.g.in n.h.inv.kp)) (hk _ _ (n.tr (n.h.tok _)) rfl))) hm
def C1 (f:Int->Option ar) (d:D):D:=λst=>(d st).bind λx=>(mE x.1).map λi=>((f i).elim .none .str,x.2)
theorem Xk {x:Str} {np apos pos:Pos} {e:Expr} {a:Addr} {f:Int->Option ar} {d:D} (hb:G.gl x=some (.ref a)) (JN:(a==sysModules)=false)
  (hM:∀h,G.K.In h->∃F,h.MapOf (intKind G.prog G.w) a F/\∀i,(match f i with|some y=>y.length<=16777216/\∃t,F i=some (.str (S y) t)|none=>F i=none)) (hd:bX fs e d) (hx:d6 fs x) (hl:(apos.endLine==pos.line)=true) (he:kq e []):bX fs (.Call (.Attribute (.Name x np) "get" apos) [e] [] pos) (C1 f d):=by
 intro c p st h
 refine .bind λw st₁ e1=>.map λi e2 k E hk=>oE rfl (by rw[he];rfl) hl F.plainAttrs_dict F.slot_dict_get F.type_dict_get (uZ h hx hb ((hM _ (c.g.in h.inv.kp)).elim λF0 hM0=>⟨hM0.1.typeIs,λc ec=>by cases ec;refine x6 (hM0.1) λo es ep h1 h2 U=>?_;exact⟨o,h1,h2.2.1⟩,oz ?_ (he _) rfl⟩))
 rw[he]
 refine iI (hd h e1 λu q n hu=>jy (pO u (show VR q u (.int i)from jN e2▸hu) λt=>(hM _ (c.g.in n.h.inv.kp)).elim λF1 hM1=>lY F.slot_dict_get hM1.1.typeIs F.entry_dict_get (F.args_dict_get_2 _ _) (meets_dict_get (intKind G.prog G.w) a (k:=i) (by simp[intKind,Value.isInt]) JN) ⟨F1,hM1.1,?_⟩))
 have :=hM1.2 i
 have aw:=n.tr (n.h.tok (q.s.toks+1))
 cases hfi:f i with
 |none=>rw[hfi]at this hk;rw[this];exact hk _ _ aw rfl
 |some y=>rw[hfi]at this hk;obtain⟨hz,t',e⟩:=this;rw[e];exact hk _ _ aw (.str hz)
def PB (H:aj) (o i:V):Option aj:=match o with
 | .ref n=>(mE i).bind λi=>(dE H n).bind λl=>if-(l.length:Int)<=i/\i<l.length then some (H.set n (some (.list (l.eraseIdx (if 0<=i then i.toNat else(i+l.length).toNat)))))else none
 |_=>none
theorem bS.erase {us:bw} {vs:aq} (h:bS p us vs) (j:Nat):bS p (us.eraseIdx j) (vs.eraseIdx j):=by
 rw[List.eraseIdx_eq_take_drop_succ,List.eraseIdx_eq_take_drop_succ]
 exact(h.take _).append (h.drop _)
theorem vW (ws:bw) (j:Nat):(ws.toArray.eraseIdxIfInBounds j).toList=ws.eraseIdx j:=by
 by_cases h:j<ws.length
 ·simp[Array.eraseIdxIfInBounds,h]
 ·simp[Array.eraseIdxIfInBounds,h,List.eraseIdx_of_length_le (Nat.not_lt.1 h)]
theorem TV {u':Value} {o i:V} (u:Value) (h:SR c st p) (hu:VR p u o) (rC:VR p u' i) (e:PB st.H o i=some H'):gw c p (delItem u u') ⟨H',st.loc⟩ λU U=>True:=by
 cases o with
 |ref n=>
  refine uj u hu λa ha=>Fw u' e rC λi t e=>?_
  refine x3 (aM.1 e) λm hl e=>?_
  refine sL H' e λhk U U K=>?_
  obtain⟨ws,⟨hz,k,ho⟩,hv⟩:=h.live hl ha
  rw[<-bS.length hv]at hk K
  have Pr:seqIndex? i ws.toArray.size=some (if 0<=i then i.toNat else(i+ws.length).toNat):=by
   rw[j4]
   unfold seqIndex?
   by_cases h0:0<=i
   ·simp only[af (show¬i<0 by exact Z64 h0),ag h0];rw[ag (by simp;exact adh h0 hk.2)]
   ·simp only[ag (show i<0 by exact Z67 h0),af h0];rw[ag (by simp;exact adg hk.1 h0)]
  refine P.delItem_list (n:=k) ho (by simp[Builtin.List.listFitsIndex];exact⟨FY hk.1 hz,FT hk.2 hz⟩) Pr ?_ (by rw[cU];exact hz)
  obtain⟨k',hm⟩:=qw (λxs=>xs.eraseIdxIfInBounds (if 0<=i then i.toNat else(i+ws.length).toNat)) ho
  rw[vW]at hm
  exact K _ _ (h.turn (t:=p.s.toks) (lT hl) nofun ha (gU ..) ⟨_,⟨aA (List.length_eraseIdx_le ..) hz,k',hm⟩,(hv.erase _).mono ⟨λU U e=>e,bY _⟩⟩) trivial
 |_=>cases e
def Ed (o i:D):DS:=λst=>(o st).bind λx=>(i x.2).bind λy=>(PB y.2.H x.1 y.1).map λH'=>(.next,⟨H',y.2.loc⟩)
theorem abe {o i:Expr} {sp pos:Pos} {d di:D} (hd:bX fs o d) (hi:bX fs i di):kh fs (.Delete [.Subscript o i sp] pos) (Ed d di):=by
 intro c p st h
 exact .bind λa st₁ e1=>.bind λb bq e2=>.map λH' e3 U U hk=>wpAny_Delete (wpAny_deleteEach_cons (wpAny_delete_Subscript (hd h e1 λu q n hu=>hi n.h e2 λu' cG aw rC=>TV u aw.h (aw.vr hu) rC e3 λU U bE U=>wpAny_deleteEach_nil (hk _ _ (n.tr (aw.tr bE)) rfl))))
def NN (v:V):Option aq:=(AY v).bind λx=>if x.1.length=x.2.length/\fO x.1=true/\x.1.length<=16777216 then some (x.1.map .str)else none
def aad (d:D):D:=λst=>(d st).bind λx=>(NN x.1).map λv=>(.lst v,x.2)
theorem Ac (ks:aG):∀(acc:bw),acc.length=ks.length->(∀(j:Nat) (u:Value),acc[j]?=some u->∃k:ar,ks[j]?=some k/\VR p u (.str k))->bS p acc (ks.map .str):=by
 induction ks with
 |nil=>exact λacc h U=>oN h▸.nil
 |cons k ks ih=>
  intro acc h hj
  cases acc with
  |nil=>cases h
  |cons u acc=>
   refine x3 (hj 0 u rfl) λk' e r=>?_
   cases e
   exact .one r (ih acc (iH h) λj u e=>hj (j+1) u e)
end
open MeetsSeq MeetsSeq2 MeetsSeq3 SeqRoads2
section
variable{fs:FS} {c:Cx fs} {p q r jU:Pt} {st st' st₁:St} {H':aj}
noncomputable def prs (d5:List (Expr×Expr)) (env:Env) (pos:Pos):List (Sem Value×Sem Value):=d5.map λp=>(eval p.1 env,do let x<-eval p.2 env;standAt pos;pure x)
def UQ (p:Pt) (us:List (Value×Value)):List (ar×V)->Prop
 |[]=>us=[]
 |y::ps=>∃t x jF,us=(.str (S y.1) t,x)::jF/\VR p x y.2/\UQ p jF ps
@[elab_as_elim] theorem prE {P:List (Value×Value)->Prop} {y:ar×V} {ps:List (ar×V)} (us:List (Value×Value)) (h:UQ p us (y::ps)) (k:∀t x jF,VR p x y.2->UQ p jF ps->P ((.str (S y.1) t,x)::jF)):P us:=
 h.elim λt h=>h.elim λx h=>h.elim λjF h=>Eq.mpr (ak P h.1) (k t x jF h.2.1 h.2.2)
noncomputable abbrev FJ:=St->Option (List (ar×V)×St)
def zP (fs:FS) (d5:List (Expr×Expr)) (d:FJ):Prop:=∀⦃c:Cx fs⦄ ⦃p:Pt⦄ ⦃st:St⦄ (pos:Pos),SR c st p->Ok (d st) λps st'=>gw c p (evalPairs (prs d5 c.env pos)) st' λq us=>UQ q us ps
noncomputable def uq:FJ:=λst=>some ([],st)
def mL (k v:D) (r:FJ):FJ:=λst=>(k st).bind λx=>(nP x.1).bind λy=>(v x.2).bind λz=>(r z.2).map λw=>((y,z.1)::w.1,w.2)
theorem aaY:zP fs [] uq:=by
 intro c p st pos h;exact .yes λU U hk=>evalPairs_nil (hk _ _ h.same rfl)
theorem aaX {ek ev:Expr} {d5:List (Expr×Expr)} {dk dv:D} {dr:FJ} (hk:bX fs ek dk) (hv:bX fs ev dv) (hr:zP fs d5 dr):zP fs ((ek,ev)::d5) (mL dk dv dr):=by
 intro c p st pos h
 exact .bind λa st₁ e1=>.jn λy ey=>.bind λb bq e2=>.map λw e3 U U K=>evalPairs_cons (hk h e1 λu q n hu=>ai (hv n.h e2 λx cG aw hx=>ai (fY (av (qi u (show VR q u (.str y)from r8 ey▸hu) λU t=>
  hr pos aw.h e3 λus jk bE gc=>K _ _ (n.tr (aw.tr bE)) ⟨t,x,us,rfl,bE.vr hx,gc⟩)))))
def lR (ps:List (ar×V)) (acc:aG×aq):aG×aq:=ps.foldl (λa p=>bM a.1 a.2 p.1 p.2) acc
theorem Ck {ps:List (ar×V)}:∀{us:List (Value×Value)},UQ p us ps->Carries (strKind G.prog G.w) us ((ps.map λp=>S p.1).zip (us.map (·.2))):=by
 induction ps with
 |nil=>exact λ{us} h=>by rw[show us=[]from h];exact trivial
 |cons y ps ih=>exact λ{us} h=>prE us h λt x us U k=>⟨uC _ t,rfl,ih k⟩
set_option tactic.hygienic true in
theorem yH {K:Type} [DecidableEq K] {d5:List (K×Value)} {k:K} {v:Value} (h:(d5.map (·.1)).Nodup):((stored d5 k v).map (·.1)).Nodup:=by
 unfold stored
 split
 ·have e:(d5.map λkv=>if kv.1=k then(kv.1,v)else kv).map (·.1)=d5.map (·.1):=by
   rw[br];apply jg;intro x _;simp only[Function.comp];split<;>rfl
  rw[e];exact h
 ·rename_i hn
  rw[cF]
  refine jc.2 ⟨h,by simp,λa ha b hb=>?_⟩
  simp only[bo,fB,a7]at hb
  subst hb
  intro e
  subst e
  exact hn (by simpa using ha)
theorem EM {ps:List (ar×V)}:∀{us:List (Value×Value)} {ks:aG} {ws:bw} {vl:aq},UQ p us ps->ks.length=ws.length->bS p ws vl->(((ks.map S).zip ws).map (·.1)).Nodup->
  ∃ws',merged ((ks.map S).zip ws) ((ps.map λp=>S p.1).zip (us.map (·.2)))=((lR ps (ks,vl)).1.map S).zip ws'/\bS p ws' (lR ps (ks,vl)).2/\(lR ps (ks,vl)).1.length=ws'.length:=by
 induction ps with
 |nil=>exact λ{us ks ws vl} h hl hv U=>by rw[show us=[]from h];exact⟨ws,rfl,hv,hl⟩
 |cons y ps ih=>
  refine λ{us ks ws vl} h hl hv nd=>prE us h λt x us b k=>?_
  refine w4 (r_ (x:=y.1) b hl hv nd) λws1 q1 q2 q3=>?_
  have :=ih k q3 q2 (q1▸yH nd)
  show∃ws',merged (stored ((ks.map S).zip ws) (S y.1) x) _=_/\_
  rw[q1]
  exact this
theorem Cb (k:ar) (v:V):∀(ks:aG) (l:aq),(bM ks l k v).1.length<=ks.length+1:=by
 intro ks
 induction ks with
 |nil=>exact λl=>aF _
 |cons a ks ih=>
  intro l
  cases l with
  |nil=>exact iz (bN _)
  |cons w l=>
   show(if a=k then(a::ks,v::l)else _).1.length<=_
   by_cases e:a=k
   ·rw[ag e];exact gM _
   ·rw[af e];exact iz (ih l)
theorem E2 (ps:List (ar×V)):∀(acc:aG×aq),(lR ps acc).1.length<=acc.1.length+ps.length:=by
 induction ps with
 |nil=>exact λU=>aF _
 |cons y ps ih=>exact λacc=>aA (ih (bM acc.1 acc.2 y.1 y.2)) (aA (qX (Cb y.1 y.2 acc.1 acc.2) _) (by rw[Nat.succ_add];exact aF _))
def nU (r:FJ):D:=λst=>(r st).bind λx=>if x.1.length<=15 then some (.eK (lR x.1 ([],[])).1 (lR x.1 ([],[])).2,x.2)else none
theorem Ri (pos:Pos) (env:Env):∀d5:List (Expr×Expr),(evalEachOpt (d5.map λp=>some p.1) env).zip ((evalEach (d5.map (·.2)) env).map λv=>do let x<-v;standAt pos;pure x)=(prs d5 env pos).map λp=>(some p.1,p.2):=by
 intro d5
 induction d5 with
 |nil=>rfl
 |cons y d5 ih=>exact ak ((some (eval y.1 env),do let x<-eval y.2 env;standAt pos;pure x)::·) ih
def i8:=@List.length_nil
theorem Xp {d5:List (Expr×Expr)} {pos:Pos} {dr:FJ} (hr:zP fs d5 dr) (h0:d5≠[]) (hn:d5.length<=15):bX fs (.Dict (d5.map λp=>some p.1) (d5.map (·.2)) pos) (nU dr):=by
 intro c p st h
 refine .bind λps st₁ e1=>.iff λhpl=>.yes λk E K=>wpAny_Dict_pairs (knd:=strKind G.prog G.w) (Ri pos c.env d5) (λe=>h0 (List.map_eq_nil_iff.1 e)) (by unfold prs;rw[aD];exact hn) ?_
 have n₁:Nx c p st (p.hp (p.s.heap.push {cls:=.type "dict",data:=.dict #[]}) p.s.toks):=h.grow (pushKeep _ _)
 have Nb:(p.s.heap.push {cls:=.type "dict",data:=.dict #[]}).get? p.s.heap.objs.size=some {cls:=.type "dict",data:=.dict #[]}:=bj _ rfl
 have own:∀b,b=p.s.heap.objs.size->Own c (p.hp (p.s.heap.push {cls:=.type "dict",data:=.dict #[]}) p.s.toks) b:=λb hb=>hb▸.new h (dT p) n₁ rfl rfl ⟨_,Nb⟩
 refine hr pos (n₁.h.plus own) e1 λus q n gc=>?_
 have aw:=n₁.tr (n.minus n₁.h own)
 have UI:=n₁.h.held own n.h rfl Nb
 have JN:=h.inv.uQ (dT p)
 refine⟨_,Ck gc,(tT (Φ:=q.s.heap.get?) UI JN).dictOf (sub_self _),λh' JQ sb=>?_⟩
 obtain⟨ws,q1,q2,q3⟩:=EM (ks:=[]) (ws:=[]) (vl:=[]) gc rfl .nil gy
 replace q1:merged [] ((ps.map λp=>S p.1).zip (us.map (·.2)))=((lR ps ([],[])).1.map S).zip ws:=q1
 rw[q1]at JQ
 obtain⟨o,es,ep,r1,r2⟩:=JQ
 have kp:∀a o,¬a=p.s.heap.objs.size->q.s.heap.get? a=some o->h'.get? a=some o:=λa o hn e=>(sb.2 a hn).trans e
 have iX:=(own _ rfl).tI n.a
 have bE:=aw.h.own (t:=q.s.toks+us.length) (X:=(·=p.s.heap.objs.size)) (λb hb=>hb▸iX) kp λb hb=>by cases hb;exact⟨o,r1⟩
 refine zU (ob:=.dict (lR ps ([],[])).1 (lR ps ([],[])).2) (aw.tr bE) ⟨ws,⟨⟨?_,JN⟩,o,r1,es,ep,r2⟩,bE.y4 q2,q3⟩ ⟨iX.kp,iX.eC,iX.tF,iX.yZ,⟨o,r1⟩⟩ (dT p) K
 rw[gT,aD]
 exact aA (l_ ..) (aA (E2 ps ([],[])) (aA (by rw[i8,cc];exact hpl) (by decide)))
section
open AutoSeq1 (wpAny_loadPart')
variable{prog:Program} {w:World} {A:Around} {s:Shared} {E:aJ}
def O0 (prog:Program) (w:World) (A:Around) (s:Shared) (y x:Value):Prop:=
 ∀(E:aJ) (Q:Bool->Shared->Prop),Q true s->wpAny (model prog w) A (eqBool y x) Q E s
theorem O0.of {y x:Value} (h:SeqAt.EqAt A s y x true):O0 prog w A s y x:=λE Q q=>h prog w E Q q
theorem AK {T:String} {name:Str} {id:String} {B:Builtin} {self:Value} {rest:bw} {Q:aJ} (slot:Slot T name id) (hT:s.TypeIs self T)
  (entry:entryFor table id=some B) (args:argsOk id ⟨self::rest,[]⟩)
  (g:wpAny (model prog w) A.in1 (B ⟨self::rest,[]⟩) (λfin s'=>match fin with| .done f=>wants Q E (.ok f) s'| .again c'=>c'.quiet=true/\codeAny (model prog w) A c' (wants Q E) s') (λe s'=>wants Q E (.error e) s') s):
  wpAny (model prog w) A (call (.builtin id) (self::rest)) Q E s:=
 wpAny_call (codeAny_call_builtin slot.plain entry (slot.check _ _ _ _ _ _ _ _ hT args g))
def qV:=@Around.under_plainId
theorem Jp {a b:Addr} {items gY:dY} (hl:s.heap.IsList a items) (hb:s.heap.IsList b gY) (yY:items.size=gY.size)
  (he:∀j (h1:j<items.size) (h2:j<gY.size),O0 prog w A.in1 s items[j] gY[j]) {R:Result->Shared->Prop} (hR:R (.ok (.ret (.bool true))) s) (k:Nat):
  ∀i:Nat,items.size-i=k->wpAny (model prog w) A.in1 (Builtin.«list.__eq__.loop» ⟨[.ref a,.ref b,rawInt i,rawInt 2],[]⟩)
   (λfin s'=>match fin with| .done f=>R (.ok f) s'| .again c'=>c'.quiet=true/\codeAny (model prog w) A c' R s') (λe s'=>R (.error e) s') s:=by
 obtain⟨⟨cls,dd,data,sl⟩,ho,hc,n,hd⟩:=id hl
 obtain⟨⟨V9,Vm,data2,UY⟩,J_,U',n2,hd2⟩:=id hb
 simp only at hc hd U' hd2
 subst hc hd U' hd2
 obtain⟨hp,g,d,tk,os⟩:=s
 induction k with
 |zero=>
  intro i hk
  wp_walk using wpAny_loadPart' ho,wpAny_loadPart' J_
  have OL:items[((i:Nat):Int).toNat]?=none:=by simp;exact adf hk
  have hi2:gY[((i:Nat):Int).toNat]?=none:=by simp;exact ade hk yY
  rw[OL,hi2]
  wp_walk using wpAny_loadPart' ho,wpAny_loadPart' J_
  show R (.ok (.ret (.bool (items.size==gY.size)))) _
  rw[yY]
  simpa using hR
 |succ k ih=>
  intro i hk
  wp_walk using wpAny_loadPart' ho,wpAny_loadPart' J_
  have jT:i<items.size:=by exact adb hk
  have VQ:i<gY.size:=by exact ada jT yY
  have OL:items[((i:Nat):Int).toNat]?=some items[i]:=by simp[jT]
  have hi2:gY[((i:Nat):Int).toNat]?=some gY[i]:=by simp[VQ]
  have hc:((i:Int)+1)=((i+1:Nat):Int):=by push_cast;rfl
  rw[OL,hi2]
  refine ai (he i jT VQ _ _ ?_)
  wp_walk
  rw[hc]
  exact⟨plainId_quiet plain_eq_loop _,codeAny_builtin entry_eq_loop (by
   rw[qV plain_eq_loop _]
   exact ih (i+1) (by exact ac9 hk))⟩
theorem E5 {a b:Addr} {items gY:dY} (hl:s.heap.IsList a items) (hb:s.heap.IsList b gY) (yY:items.size=gY.size) (hu:A.units<cLine)
  (he:∀j (h1:j<items.size) (h2:j<gY.size),O0 prog w A.in1 s items[j] gY[j]) {Q:aJ} (h:Q (.bool true) s):wpAny (model prog w) A (compareOp .Eq (.ref a) (.ref b)) Q E s:=by
 refine wpAny_richCompare_same_room (op:=.Eq) (T:="list") ?_ ?_ PySem.F.slot_list_eq (AK (B:=Builtin.«list.__eq__») PySem.F.slot_list_eq ?_ PySem.F.entry_list_eq (PySem.F.args_list_eq_2 _ _) ?_) hu
 ·exact hl.typeIs
 ·exact hb.typeIs
 ·exact hl.typeIs
 ·obtain⟨⟨cls,dd,data,sl⟩,ho,hc,n,hd⟩:=id hl
  obtain⟨⟨V9,Vm,data2,UY⟩,J_,U',n2,hd2⟩:=id hb
  simp only at hc hd U' hd2
  subst hc hd U' hd2
  obtain⟨hp,g,d,tk,os⟩:=s
  have f3:=AutoSeq1.sub_list_list
  have sM:¬(items.size !=gY.size)=true:=by simp[yY]
  wp_walk using wpAny_loadPart' ho,wpAny_loadPart' J_
  exact⟨plainId_quiet plain_eq_loop _,codeAny_builtin entry_eq_loop (by
   rw[qV plain_eq_loop _]
   exact Jp hl hb yY he ⟨(λx=>nomatch x),h⟩ _ 0 rfl)⟩
end
theorem Ar {K:Type} [DecidableEq K] {β:Type}:∀{kb:List (K×Value)} {k:K} {y:Value},(kb.map (·.1)).Nodup->(k,y)∈kb->valueAt kb k=some y:=by
 intro xx
 induction xx with
 |nil=>
  intro _ _ _ h
  cases h
 |cons yy kb ih=>
  obtain⟨k',y'⟩:=yy
  intro k y nd h
  simp only[bo,fZ]at nd
  simp only[valueAt,kL]
  rcases aC.1 h with q|q
  ·cases q;simp
  ·have sM:k'≠k:=λe=>nd.1 (by subst e;exact aY.2 ⟨_,q,rfl⟩)
   rw[show decide (k'=k)=false from decide_eq_false sM]
   have :=ih nd.2 q
   simpa[valueAt]using this
def qq (a b:V):Bool:=((AY a).bind λx=>(AY b).map λy=>x.1==y.1&&jo 7 x.2&&jo 7 y.2&&AZ x.2 y.2).getD false
theorem xr {A:Around} {kb:List (Str×Value)} (nd:(kb.map (·.1)).Nodup) (hs:Sub p.Φ p.s.heap) (hu:A.in1.units+64<cLine) {ks:aG}:
  ∀{l l':aq} {us jF:bw},(∀x∈(ks.map S).zip jF,x∈kb)->bS p us l->bS p jF l'->jo 7 l=true->jo 7 l'=true->AZ l l'=true->KeqHits A.in1 p.s kb ((ks.map S).zip us) true:=by
 induction ks with
 |nil=>exact λU U U U U U=>.nil
 |cons k ks ih=>
  intro l l' us jF hp h1 h2 o1 o2 e
  cases l with
  |nil=>exact tj us h1 .nil
  |cons v l=>
   cases l' with
   |nil=>cases e
   |cons v' l'=>
    rw[d9,bp]at o1 o2
    rw[j7,bp]at e
    refine gX us h1 λu us OH h1=>gX (Ps:=λjF=>(∀x∈((k::ks).map S).zip jF,x∈kb)->_) jF h2 (λu' jF OG h2 hp=>?_) hp
    obtain⟨as,r1⟩:=qD hs v u OH (g8 (by decide) o1.1).1
    obtain⟨bs,r2⟩:=qD hs v' u' OG (g8 (by decide) o2.1).1
    have h0:=keq_at r1 r2 (g8 (by decide) o1.1).2 (g8 (by decide) o2.1).2 hu
    rw[show PyData.eqv (yV v) (yV v')=true from e.1]at h0
    exact .hit (e:=true) (b:=true) (Ar (β:=Unit) nd (hp _ (.head _))) h0 (ih (λx q=>hp x (.tail _ q)) h1 h2 o1.2 o2.2 e.2)
def oy:=@Option.getD_some
theorem E9 {A:Around} {u u':Value} {a b:V} (hs:Sub p.Φ p.s.heap) (hu:A.in1.units+64<cLine) (h1:VR p u a) (h2:VR p u' b) (e:qq a b=true):O0 G.prog G.w A p.s u u':=by
 unfold qq at e
 match ea:AY a,eb:AY b,e with
 |some x,some y,e=>
  simp only[iA,iw,oy,bp,beq_iff_eq]at e
  obtain⟨⟨⟨ek,o1⟩,o2⟩,e⟩:=e
  refine xN u (show VR p u (.eK x.1 x.2)from u6 ea▸h1) λi us d1 v1 n1=>xN u' (show VR p u' (.eK x.1 y.2)from ek▸u6 eb▸h2) λj jF d2 v2 n2=>?_
  by_cases UD:i=j
  ·subst UD;exact O0.of (SeqAt.EqAt.same _)
  ·intro E Q q
   unfold eqBool
   refine ef (wpAny_ite_split (λhab=>absurd (by have :=eq_of_beq hab;injection this) UD) λU=>ai ?_)
   refine keq_eq (r:=true) (by simpa using d1.1.2) (by simpa using d2.1.2) (d1.dictOf hs) (d2.dictOf hs) (by have :A.in1.units=A.units+1:=rfl;exact ac8 hu this) (λU=>xr d2.nd hs hu (λp q=>q) v1 v2 o1 o2 e) (jC ?_)
   have :((x.1.map S).zip us).length=((x.1.map S).zip jF).length:=by simp[<-n1,<-n2]
   rw[this];simpa using q
def BJ:aq->aq->Bool
 |[],m=>m.isEmpty
 |a::l,m=>match m with
  |b::m=>qq a b&&BJ l m
  |[]=>false
def Kw (_:aj) (a b:V):Option Bool:=(xI a).bind λl=>(xI b).bind λm=>if BJ l m=true then some true else none
theorem E8 {A:Around} (hs:Sub p.Φ p.s.heap) (hu:A.in1.units+64<cLine) {l:aq}:
  ∀{m:aq} {us jF:bw},bS p us l->bS p jF m->BJ l m=true->us.length=jF.length/\∀(j:Nat) (h1:j<us.length) (h2:j<jF.length),O0 G.prog G.w A p.s us[j] jF[j]:=by
 induction l with
 |nil=>
  intro m us jF h1 h2 e
  cases m with
  |nil=>rw[show us=[]from h1,show jF=[]from h2];exact⟨rfl,λU h=>nomatch h⟩
  |cons=>cases e
 |cons a l ih=>
  intro m us jF h1 h2 e
  cases m with
  |nil=>cases e
  |cons b m=>
   have e:=aX.1 e
   refine gX us h1 λu us OH h1=>gX jF h2 λu' jF OG h2=>?_
   obtain⟨hl,hr⟩:=ih h1 h2 e.2
   refine⟨ak Nat.succ hl,λj q1 q2=>?_⟩
   cases j with
   |zero=>exact E9 hs hu OH OG e.1
   |succ j=>exact hr j (Nat.lt_of_succ_lt_succ q1) (Nat.lt_of_succ_lt_succ q2)
theorem RN:dG .Eq Kw:=λU c p U U U u u' v h hu hb e=>Np u e hu λx us l t1 v1 e=>Np u' e hb λy jF m t2 v2 e=>sL v e λhd U U hk=>by
 have hun:c.A.in1.in1.units+64<cLine:=(u64 c.r.units (by decide):c.A.units+66<9900)
 obtain⟨hl,he⟩:=E8 (A:=c.A.in1) h.inv.eC hun v1 v2 hd
 exact E5 (t1.isList h.inv.eC) (t2.isList h.inv.eC) (by simpa using hl) c.r.uni (λj h1 h2=>by simpa using he j (by simpa using h1) (by simpa using h2)) (hk _ _ h.same rfl)
def Nj:=AQ eqW Kw
theorem XS:dG .Eq Nj:=pI XU RN
end
section
variable{fs:FS} {c:Cx fs} {p q r:Pt} {st st' st₁:St}
theorem SR.gens (h:SR c st p) {g:Array GenState} (d:Drawn) (hg:AllBare g):Nx c p st ⟨p.Φ,p.ρ,{p.s with gens:=g,drawn:=d}⟩:=
 .of (q:=⟨p.Φ,p.ρ,{p.s with gens:=g,drawn:=d}⟩) h ⟨⟨λU U h=>h,bY _⟩,λU U U=>rfl,λU h=>.inl h,λU h=>h⟩ (h.inv.to (λU U e=>e) rfl (λU U U e=>e) (λU U e=>.inl e) ⟨hg,h.inv.so.2⟩) λU U U e=>e
theorem sv {β:Type} {l:List β} {n:Nat} {x:β} (e:l[n]?=some x):l.set n x=l:=List.ext_getElem? λm=>by
 by_cases q:m=n
 ·subst q;rw[q6 (bO.1 e).1,e]
 ·rw[jh (Ne.symm q)]
theorem SR.O2 (h:SR c st p) {h':Heap} {t:Nat} {ps:dY} (hx:Heap.ExtBut G.tb.2 p.s.heap h') (tr:TriplesOk ps.toList) (ht:h'.get? G.tb.2=some {cls:=.none,data:=.fields ps}):Nx c p st (p.hp h' t):=by
 have n:=h.Ge (t:=t) h.inv.tb (h.inv.live 0 _ h.inv.tb|>.elim λa k=>(show a=G.tb.2 from k.2.2.2.1)▸k.1) hx (o':=.tab) ⟨rfl,ps,tr,ht⟩ (by rw[sv h.inv.tb];exact h.inv.tb)
 rw[sv h.inv.tb]at n
 exact n
def dJ:=@Exists.imp
theorem zO.O2 {l1 l2:aq} {I:Addr} {fp wr:List Addr} {n:Nat} {P:Nat->dY->Prop} {T:Nat->Heap->Prop} {AS:Nat->Addr->Heap->Prop} (z:zO c p st' l1 l2 I fp wr n P T AS q) {h':Heap} {t:Nat} {ps:dY} (hx:Heap.ExtBut G.tb.2 q.s.heap h') (tr:TriplesOk ps.toList)
  (ht:h'.get? G.tb.2=some {cls:=.none,data:=.fields ps}):zO c p st' l1 l2 I fp wr n P T AS (q.hp h' t):=
 have y:=z.nx.h.O2 (t:=t) hx tr ht
 have⟨a,e,_,kp,ea,_⟩:=z.nx.h.inv.live 0 _ z.nx.h.inv.tb
 ⟨z.nx.tr y,z.W,z.len,λi us a=>(z.pw i us a).imp λU=>dJ λU=>dJ λU=>dJ λU k=>⟨k.1,⟨k.2.1.1,y.a.vr k.2.1.2⟩,k.2.2.1,y.a.vr k.2.2.2⟩,z.fp,z.lv,(z.W c.A c.r.handled).frame 0 _ _ z.J2 λb hb o e'=>hx _ _ (λq=>(z.fp b hb).elim (λw=>(z.own b w).tF (q▸(show a=G.tb.2 from ea)▸bI e)) λw=>w.elim λo w=>nomatch((show a=G.tb.2 from ea)▸kp).symm.trans (q▸w)) e',λb hb=>(z.own b hb).tI y.a,z.new⟩
structure KO:Prop where
 ex:∃bm o,G.gl "__builtins__"=some (.ref bm)/\bm≠builtinsNs/\G.K.lookup bm=some o/\o.cls= .type "module"/\o.dict=some builtinsNs/\o.data= .plain
def FL (p q:aq):Option aq:=(lg p).bind λa=>(lg q).map λb=>(a.zip b).map λx=>.int (x.1+x.2)
def tW (ds:DL):D:=λst=>(ds st).bind λx=>(rK x.1).bind λv=>(FA v.1).bind λp=>(FA v.2).bind λq=>if p.length<=16777216 then(FL p q).map λv=>(.tup v,x.2)else none
theorem vk {vs:aq}:∀{is:List Int},lg vs=some is->vs=is.map .int:=by
 induction vs with
 |nil=>exact λe=>aP e▸rfl
 |cons v vs ih=>
  intro is e
  cases v with
  |int i=>exact(aO.1 e).elim λis' k=>k.2▸ak (V.int i::·) (ih k.1)
  |_=>cases e
structure Dc (scope:Scope) (xi xj:Str):Prop where
 co:scope.isCoroutine=false
 fr:(scope.names.all λy=>y.2 !=.free&&y.2 !=.cell)=true
 n0:scope.names.lookup (".0":Str)=some NameKind.local
 ni:scope.names.lookup xi=some .local
 nj:scope.names.lookup xj=some .local
 ne:xi≠xj
 kd:scope.kind= .function
 di:(xi==("__debug__":Str))=false
 dj:(xj==("__debug__":Str))=false
theorem Dc.out {scope:Scope} {xi xj:Str} (g:Dc scope xi xj):∀y∈scope.names,y.2≠.free/\y.2≠.cell:=λy hy=>by
 have :=aI.1 g.fr y hy
 simpa using this
def q9:=@List.length_eq_zero_iff
theorem zQ {zs:List Int}:∀{us:bw},us.length=zs.length->(∀(j:Nat) (u:Value),us[j]?=some u->∃z t,zs[j]?=some z/\u= .int z t)->bS p us (zs.map .int):=by
 induction zs with
 |nil=>exact λh U=>q9.1 h
 |cons z zs ih=>
  intro us h hj
  cases us with
  |nil=>exact nomatch h
  |cons u us=>
   refine x4 (hj 0 u rfl) λz' t e r=>?_
   cases e
   exact⟨u,us,rfl,⟨t,r⟩,ih (iH h) λj u e=>hj (j+1) u e⟩
def GenPost (c:Cx fs) (scope:Scope) (xi xj:Str) (el:Expr) (k E:aJ) (I:Addr) (code:Value) (bi:Addr) (bR:Shared):Prop:=
    ∃I' fp wr k6 Pt w8 AS pz F,Value.ref I= .ref I'/\(∀A':Around,A'.handled=none->WalksU G.prog G.w A' I' fp wr k6 Pt w8 AS)/\(∀i vals,Pt i vals->∃va vb,vals=#[va,vb])/\w8 0 bR.heap/\(∀b∈fp,b<bR.heap.objs.size)/\bR.heap.NoLimit/\cStatics∉wr/\
     (∀Ea:Heap,(∀b o,bR.heap.get? b=some o->Ea.get? b=some o)->
      QuietGenTD G.prog G.w (genEnv scope [] bR.heap.objs.size code bi c.env) xi xj [] el (List.range bR.heap.objs.size) wr Pt pz F Ea (c.A.depth+1) (c.A.units+8))/\
     (∀a mK tk gs,gs.bare=true->bR.heap.objs.size<a->mK.objs.size=a+1->(∀b o,bR.heap.get? b=some o->mK.get? b=some o)->
      WalksS G.prog G.w c.A.in4 a (a::bR.heap.objs.size::List.range bR.heap.objs.size) (bR.heap.objs.size::wr) (GenOnlyQ bR.gens.size) (passing pz k6 0).length
       (λj y=>∃i,(passing pz k6 0)[j]?=some i/\F i y) (GenAt G.prog G.w c.A.in4 a bR.gens.size bR.heap.objs.size (List.range bR.heap.objs.size) wr pz k6 F)->
      GenAt G.prog G.w c.A.in4 a bR.gens.size bR.heap.objs.size (List.range bR.heap.objs.size) wr pz k6 F 0 {bR with gens:=bR.gens.push gs,toks:=tk,heap:=mK}->
      wpAny cW c.A (spliced []) (λvs b7=>wpAny cW c.A (call (.type "tuple") (.ref a::vs)) k E b7) E {bR with gens:=bR.gens.push gs,toks:=tk,heap:=mK})
theorem GenPost.mk {c:Cx fs} {scope:Scope} {xi xj:Str} {el:Expr} {k E:aJ} {I:Addr} {code:Value} {bi:Addr} {bR:Shared} {fp wr:List Addr} {k6:Nat} {Pt:Nat->dY->Prop} {w8:Nat->Heap->Prop} {AS:Nat->Addr->Heap->Prop} {pz:Nat->Bool} (F:Nat->Value->Prop)
  (h1:∀A':Around,A'.handled=none->WalksU G.prog G.w A' I fp wr k6 Pt w8 AS)
  (h2:∀i vals,Pt i vals->∃va vb,vals=#[va,vb])
  (h3:w8 0 bR.heap)
  (h4:∀b∈fp,b<bR.heap.objs.size)
  (h5:bR.heap.NoLimit)
  (h6:cStatics∉wr)
  (h7:∀Ea:Heap,(∀b o,bR.heap.get? b=some o->Ea.get? b=some o)->
      QuietGenTD G.prog G.w (genEnv scope [] bR.heap.objs.size code bi c.env) xi xj [] el (List.range bR.heap.objs.size) wr Pt pz F Ea (c.A.depth+1) (c.A.units+8))
  (h8:∀a mK tk gs,gs.bare=true->bR.heap.objs.size<a->mK.objs.size=a+1->(∀b o,bR.heap.get? b=some o->mK.get? b=some o)->
      WalksS G.prog G.w c.A.in4 a (a::bR.heap.objs.size::List.range bR.heap.objs.size) (bR.heap.objs.size::wr) (GenOnlyQ bR.gens.size) (passing pz k6 0).length
       (λj y=>∃i,(passing pz k6 0)[j]?=some i/\F i y) (GenAt G.prog G.w c.A.in4 a bR.gens.size bR.heap.objs.size (List.range bR.heap.objs.size) wr pz k6 F)->
      GenAt G.prog G.w c.A.in4 a bR.gens.size bR.heap.objs.size (List.range bR.heap.objs.size) wr pz k6 F 0 {bR with gens:=bR.gens.push gs,toks:=tk,heap:=mK}->
      wpAny cW c.A (spliced []) (λvs b7=>wpAny cW c.A (call (.type "tuple") (.ref a::vs)) k E b7) E {bR with gens:=bR.gens.push gs,toks:=tk,heap:=mK}):GenPost c scope xi xj el k E I code bi bR:=
 ⟨I,fp,wr,k6,Pt,w8,AS,pz,F,rfl,h1,h2,h3,h4,h5,h6,h7,h8⟩
def qO:=@Nat.lt_succ_of_lt
def qY:=@Array.getElem?_toList
theorem Lp {x zx xi xj:Str} {np znp pa pb pt p1 p2 p3 pos wy Kg:Pos} {kt:Nat} {scope:Scope} {e e':Expr} {d d':D}
  (hb:G.bi x=some (.type "tuple")) (hz:G.bi zx=some (.type "zip")) (hB:KO) (Gq:fs.code= .ref G.tb.1) (hs:bX fs e d) (xG:bX fs e' d') (sc:Dc scope xi xj) (hx:d6 fs x) (hzx:d6 fs zx) (hp:cK Kg e [e']) (J9:kq e' []):
  bX fs (.Call (.Name x np) [.GeneratorExp (.BinOp (.Name xi p1) .Add (.Name xj p2) p3) [⟨.Tuple [.Name xi pa,.Name xj pb] kt pt,.Call (.Name zx znp) [e,e'] [] Kg,[],0⟩] scope wy] [] pos) (tW (ae d (ae d' az))):=by
 intro c p st h
 refine .bind λws st₁ e1=>.jn λv ev=>.jn λl1 k1=>.jn λl2 k2=>.iff λyY=>.map λw e2 k E hk=>?_
 refine x3 (aM.1 e2) λia ea e2=>?_
 obtain⟨ib,eb,rfl⟩:=aO.1 e2
 obtain rfl:=vk ea
 obtain rfl:=vk eb
 refine jB (sR h hx hb (rg ?_ rfl rfl))
 show wpAny _ c.A (spliced [(false,eval (.GeneratorExp (.BinOp (.Name xi p1) .Add (.Name xj p2) p3) [⟨.Tuple [.Name xi pa,.Name xj pb] kt pt,.Call (.Name zx znp) [e,e'] [] Kg,[],0⟩] scope wy) c.env)]) _ _ _
 refine iI ?_
 refine wpAny_GeneratorExp_walksQTD (cl:=[]) c.r.handled sc.co (closureFor_none λy hy=>(sc.out y hy).1) (λy hy=>(sc.out y hy).2) sc.n0 sc.ni sc.nj sc.ne sc.kd c.r.dep ?_ (λU=>rfl)
 refine Nr hz hs xG hzx hp J9 h e1 ev k1 k2 λI fp wr n P T AS q z=>⟨c.g.lim _ z.nx.h.inv.kp,?_⟩
 have cont:∀(code:Value) (q:Pt),zO c p st₁ (ia.map .int) (ib.map .int) I fp wr n P T AS q->wpAny cW c.A (builtinsFor c.env.globals c.env.builtins) (GenPost c scope xi xj (.BinOp (.Name xi p1) .Add (.Name xj p2) p3) k E I code) E q.s:=by
  intro code q z
  have F8:=z.nx.h.inv
  obtain⟨bm,o,b1,b2,b3,b4,b5,b6⟩:=hB.ex
  refine w4 (c.g.OT q.s.heap F8.kp) λmg OK AR U=>?_
  have abo:=c.g.lim _ F8.kp
  have hn:n=(ia.zip ib).length:=by rw[<-z.len];simp[FK]
  refine wpAny_builtinsFor (c.glob▸OK) (AR _ _ b1) b2 (F8.kp _ _ (c.g.K _ _ b3)) b4 b5 b6 (GenPost.mk (pz:=λU=>true) (λi y=>∃c1 c2 tk,ia[i]?=some c1/\ib[i]?=some c2/\y= .int (c1+c2) tk) (λA' hA=>(z.W A' hA).toU) (λi us h=>(z.pw i us h).imp λU=>dJ λU k=>k.elim λU k=>k.elim λU k=>k.1) z.J2 (λb hb=>?_) abo (λhm=>?_) (λEa hk=>?_) λga mK tk gs Yw jT abH X' WS GA=>?_)
  ·exact(z.fp b hb).elim (λw=>(z.own b w).ex.elim λo e=>cE e) λw=>w.elim λo e=>cE (F8.eC _ _ e)
  ·have iP:g6 p cStatics:=let⟨_,hn,_⟩:=c.g.lim p.s.heap h.inv.kp;let⟨o,_,_,e,_⟩:=hn;⟨o,e⟩
   exact iP.not (z.new _ hm)
  ·refine⟨λA' E' i va vb jH abx hA hD hU hP hn hma hmb hk6=>wpAny_tests_nil ⟨rfl,jH.heap,jH.toks,rfl,λU U e=>e⟩,λA' E' i va vb jH abx hA hD hU hP hpz UC hma hmb hk6=>?_⟩
   obtain⟨x,y,v,w,exy,⟨hv,hx⟩,hw,hy⟩:=z.pw i _ hP
   obtain⟨rfl,rfl⟩:va=x/\vb=y:=by simpa using ak Array.toList exy
   rw[aQ]at hv hw
   obtain⟨c1,i1,rfl⟩:=aO.1 hv
   obtain⟨c2,i2,rfl⟩:=aO.1 hw
   obtain⟨t1,rfl⟩:=hx
   obtain⟨t2,rfl⟩:=hy
   refine wpAny_BinOp (wpAny_Name (oI sc.kd sc.ni UC hma (wpAny_Name (oI sc.kd sc.nj UC hmb ?_) sc.dj)) sc.di)
   exact add_int ⟨⟨c1,c2,jH.toks,i1,i2,rfl⟩,jH.heap,_,rfl,λU U e=>e⟩
  ·refine jy ?_
   have Gn:passing (λU=>true) n 0=List.range n:=by unfold passing;simp
   refine call_tuple_gen WS.in4_3 (λi s iP=>iP.1.typeIs) GA (λb hb=>?_) cV (λrF acc hm A6=>?_) (by rw[Gn,ez,hn,cU,gT];exact aA (l_ ..) (aD (f:=V.int)▸yY))
   ·show b<mK.objs.size
    rw[abH]
    rcases aC.1 hb with rfl|hb
    ·exact jb _
    ·rcases aC.1 hb with rfl|hb
     ·exact qO jT
     ·exact qO (Nat.lt_trans (eF.1 hb) jT)
   ·have Yp:∀b o,b∉wr->q.s.heap.get? b=some o->rF.heap.get? b=some o:=λb o hb e=>hm.heap b o (λhmm=>(aC.1 hmm).elim (λz=>absurd (cE (z▸e)) (gO _)) hb) (X' b o e)
    have n₁:=z.nx.fin (h':=rF.heap) (t:=rF.toks) z.own Yp z.new
    have aw:=n₁.tr (n₁.h.gens rF.drawn ((show AllBare (q.s.gens.push gs)from F8.so.1.push Yw).movedS hm))
    have es:({q.s with heap:=rF.heap,toks:=rF.toks,gens:=rF.gens,drawn:=rF.drawn}:Shared)=rF:=by
     have Cr:rF.os=q.s.os:=hm.os
     obtain⟨q1,q2,q3,q4,q5⟩:=rF;cases Cr;rfl
    have bE:Nx c p st₁ ⟨q.Φ,q.ρ,rF⟩:=es▸aw
    have ea:=A6.1
    rw[Gn,ez,hn]at ea
    have vr:bS ⟨q.Φ,q.ρ,rF⟩ acc.toList (((ia.zip ib).map λx=>x.1+x.2).map .int):=zQ (by rw[aD];exact ea) λj u hu=>by
     obtain⟨i,hi,c1,c2,tk,g1,g2,g3⟩:=A6.2 j u (by rw[<-qY];exact hu)
     rw[Gn]at hi
     have hj:=(bO.1 hi).1
     rw[mu (by rwa[ez]at hj)]at hi
     cases hi
     exact⟨c1+c2,tk,by rw[aQ,(gV (z:=(c1,c2))).mpr ⟨g1,g2⟩];rfl,g3⟩
    rw[br]at vr
    exact(n8 bE.h vr (by rw[aD,gT];exact aA (l_ ..) (aD (f:=V.int)▸yY)) λa q n hv=>hk a q (bE.tr n) hv).2
 obtain⟨a,ha,kp,_,ea,ps,tr,FW⟩:=z.nx.h.inv.live 0 _ z.nx.h.inv.tb
 cases ea
 have Na:=c.g.cd _ z.nx.h.inv.kp ps tr FW
 have hec:c.env.code= .ref G.tb.1:=c.code.trans Gq
 cases hca:codeAmong wy ps.toList with
 |some c'=>exact wpAny_genexprCode_hit hec Na.1 hca (cont c' q z)
 |none=>exact wpAny_genexprCodeX hec Na.1 Na.2 hca λc' h' tk JM U U k1 U k3 U=>cont _ _ (z.O2 (t:=tk) JM (k1.elim λU k=>k.elim λU k=>k.elim λU k=>k.elim λU k=>k.elim λU k=>k.elim λU k=>k.elim λU k=>k.elim λU k=>k.elim λU k=>k.elim λU k=>k.2.2.2.2.2.2.2.2.2.1) k3.2)
end
section
variable{fs:FS} {c:Cx fs} {p q:Pt} {st st':St} {β:Type} {PP:Value->Prop} {Ps:bw->Prop}
@[elab_as_elim] theorem aTE {a:V} {f:aq->Option β} {v:β} (u:Value) (e:(Fv a).bind f=some v) (h:VR p u a) (k:∀b us l,rM p.Φ b us->bS p us l->f l=some v->PP (.ref b)):PP u:=by
 refine x3 (aM.1 e) λi q e=>?_
 rw[u5 q]at h
 exact qh u h λb us t hv=>k b us i t hv e
def Wa (a b:V):Option V:=(Fv a).bind λx=>(Fv b).bind λy=>if x.length+y.length<=16777216 then some (.tup (x++y))else none
def vE:=@PySem.F.entry_tuple_add
def vH:=@PySem.F.args_tuple_add_2
theorem RV:g7 .Add Wa:=λU c p st U U u u' v h hu hb e=>aTE u e hu λta us x t1 v1 e=>aTE u' e hb λtb ws y t2 v2 e=>sL v e λhz K E hk=>by
 obtain⟨z1,o1,e1,c1,n1,d1⟩:=t1
 obtain⟨z2,o2,e2,c2,n2,d2⟩:=t2
 have h1:=h.inv.eC _ _ e1
 have h2:=h.inv.eC _ _ e2
 obtain⟨cls,dd,data,sl⟩:=o1
 obtain⟨V9,Vm,data2,UY⟩:=o2
 cases c1;cases d1;cases c2;cases d2
 cases us with
 |nil=>
  cases x with
  |cons=>cases bS.length v1
  |nil=>exact concat_meets ⟨_,h1,rfl⟩ ⟨_,h2,rfl⟩ noFill_tuple_add seq_tuple_add PySem.F.slot_tuple_add vE (vH _ _) (tuple_addW0 ta tb _ ws.toArray n1 n2 dd Vm sl UY rfl) ⟨h1,h2,hk _ _ h.same (.tup ⟨z2,_,e2,rfl,_,rfl⟩ v2)⟩
 |cons u us=>cases ws with
  |nil=>
   cases y with
   |cons=>cases bS.length v2
   |nil=>exact concat_meets ⟨_,h1,rfl⟩ ⟨_,h2,rfl⟩ noFill_tuple_add seq_tuple_add PySem.F.slot_tuple_add vE (vH _ _) (tuple_addW1 ta tb (u::us).toArray _ n1 n2 dd Vm sl UY (by simp) rfl) ⟨h1,h2,hk _ _ h.same (by rw[eh];exact .tup ⟨z1,_,e1,rfl,_,rfl⟩ v1)⟩
  |cons w ws=>
   have hv:=v1.append v2
   refine concat_meets ⟨_,h1,rfl⟩ ⟨_,h2,rfl⟩ noFill_tuple_add seq_tuple_add PySem.F.slot_tuple_add vE (vH _ _) (tuple_addW2 ta tb (u::us).toArray (w::ws).toArray n1 n2 dd Vm sl UY (by simp) (by simp)
    (by rw[j4,j4,<-bH,bS.length hv,bH];exact hz)) ⟨h1,h2,?_⟩
   rw[List.append_toArray]
   exact(n8 h hv (by rw[bH];exact hz) hk).2
def addW:=OD uv Wa
theorem G3:g7 .Add addW:=O_ X0 RV
def PC (a b:D):D:=λst=>(a st).bind λx=>(OW x.1).bind λt=>if t then some (.bool true,x.2)else b x.2
theorem aa0 {e e':Expr} {pos:Pos} {d d':D} (hd:bX fs e d) (JQ:bX fs e' d'):bX fs (.BoolOp .Or [e,e'] pos) (PC d d'):=by
 intro c p st h
 exact .bind λa st₁ e1=>.jn λb e2=>.ite
  (λz=>.yes λU U hk=>wpAny_Or2 (hd h e1 λu q n hu=>ur u (show VR q u (.bool b)from pX e2▸hu) (jC (by rw[ag z];exact hk _ _ n (ak _ z)))))
  λz=>.of λv bq e3 U U hk=>wpAny_Or2 (hd h e1 λu q n hu=>ur u (show VR q u (.bool b)from pX e2▸hu) (jC (by rw[af z];exact JQ n.h e3 λU U aw=>hk _ _ (n.tr aw))))
def CG (H:aj) (o:V) (vs:aq):Option (V×aj):=(rK vs).bind λx=>(nP x.1).bind λk=>(rS H o).bind λt=>if t.1.length=t.2.length then some ((cz t.1 t.2 k).getD x.2,H)else none
theorem RL:fA "dict.get" CG:=λU c p st U U u us w h hu gc e=>GK us e gc λuk ud x hk hd e=>y7 uk e hk λk U t e=>by
 refine x3 (aM.1 e) λy e1 e=>?_
 refine xU u h hu e1 λa ws r=>sL w e λhl K E hK=>?_
 have hm:=(r.1.dictOf (sub_self _)).mapOf
 refine lY F.slot_dict_get hm.typeIs F.entry_dict_get (F.args_dict_get_3 _ _ _) (meets_dict_get_default (strKind G.prog G.w) a (k:=S k) (uC _ _) (bu.2 r.1.1.2) ud) ⟨_,hm,?_⟩
 have n:=h.tok (p.s.toks+1)
 cases e3:cz y.1 y.2 k with
 |none=>
  rw[e3]at hK
  rw[ri (bS.length r.2.1) e3]
  exact hK _ _ n (n.vr hd)
 |some v=>
  rw[e3]at hK
  refine x3 (sA r.2.1 e3) λz e4 hz=>?_
  rw[e4]
  exact hK _ _ n (n.vr hz)
noncomputable def abh (l:aq):Option (V×aq):=match l with
 |v::r=>some (v,r)
 |[]=>none
def D_ (H:aj) (o:V) (vs:aq):Option (V×aj):=match o with
 | .ref n=>(lQ vs).bind λx=>(mE x).bind λi=>(dE H n).bind λl=>if i=0 then(abh l).map λy=>(y.1,H.set n (some (.list y.2)))else none
 |_=>none
theorem XB:fA "list.pop" D_:=λU c p st o vs u us w h hu gc e=>by
 cases o with
 |ref n=>
  refine uj u hu λa ha=>jS us e gc λui x hi e=>Fw ui e hi λi t e=>?_
  refine x3 (aM.1 e) λl hl e=>?_
  obtain⟨ws,⟨hz,k,ho⟩,hv⟩:=h.live hl ha
  by_cases hi:i=0
  ·rw[ag hi]at e
   cases hi
   cases l with
   |nil=>cases e
   |cons v r=>
    cases e
    refine gX ws hv (λu1 ws OH hv=>?_) hz ho
    intro hz ho K E hk
    refine gL F.slot_list_pop (T:="list") ⟨_,ho,rfl⟩ F.entry_list_pop (F.args_list_pop_2 _ _) (MeetsSeq.list_pop_at a (u1::ws).toArray k 0 t 0 u1 (by decide) (by simp[seqIndex?]) rfl (by rw[cU];exact hz)) ⟨ho,?_⟩
    obtain⟨k',hm⟩:=qw (λxs=>xs.eraseIdxIfInBounds 0) ho
    rw[vW]at hm
    have n:=h.turn (o':=.list r) (t:=p.s.toks) (lT hl) nofun ha (gU ..) ⟨_,⟨aA (gM _) hz,k',hm⟩,hv.mono ⟨λU U e=>e,bY _⟩⟩
    exact hk _ _ n (n.vr OH)
  ·rw[af hi]at e;cases e
 |_=>cases e
def Px (_:aj) (vs:aq):Option V:=(rK vs).bind λx=>(mE x.1).bind λi=>(mE x.2).map λj=>.int (if j>i then j else i)
theorem XI:mP (.builtin "max") Px:=λU c p U U us v h gc e=>GK us e gc λua ub x ha hb e=>Fw ua e ha λi t e=>by
 obtain⟨j,q,rfl⟩:=aO.1 e
 exact pO ub (show VR p ub (.int j)from jN q▸hb) λt' U U hk=>max_two_ints c.r.handled λh' tk rz=>by
  have n:=h.grow (t:=tk) rz
  by_cases z:j>i
  ·rw[ag z]at hk |-;exact hk _ _ n .int
  ·rw[af z]at hk |-;exact hk _ _ n .int
def wY (_:aj) (vs:aq):Option V:=(lQ vs).bind λv=>(Fv v).bind λx=>(lg x).map λis=>.int is.sum
theorem Rq:mP (.builtin "sum") wY:=λU c p U U us v h gc e=>jS us e gc λu x hu e=>aTE u e hu λa ws l ht hv e=>by
 obtain⟨is,e2,rfl⟩:=aO.1 e
 obtain⟨xs,rfl,ei⟩:=vm hv e2
 have hl:p.s.heap.IsTuple a (intItems xs.toArray):=by simpa[intItems]using ht.isTup h.inv.eC
 have jT:a<p.s.heap.objs.size:=hl.elim λU e=>cE e.1
 intro K E hk
 refine call_sum_walkG (wpAny_pyIter_tuple hl ⟨_,_,_,_,_,_,numAt xs.toArray,rfl,Walks.tuple (A:=c.A.in1) c.r.handled _ a (df jT) (intItems xs.toArray),⟨⟨_,bj _ rfl,rfl,rfl⟩,hl.push _⟩,memC (qT (jb _) (fD ..).symm) (lE (qT (qO jT) (fD ..).symm)),λU U=>intItems_at,λh' tk t' rz=>?_⟩)
 have n:=h.grow (h':=h') (t:=tk) λb o e=>rz b o (λhm=>absurd (cE (a7.1 hm▸e)) (gO _)) (aZ _ e)
 refine hk _ _ n ⟨t',?_⟩
 rw[preSum_eq,dR (by simp[intItems]),<-ei]
noncomputable def VZ (f g:aj->aq->Option V) (H:aj) (vs:aq):Option V:=(f H vs).or (g H vs)
theorem XD {u:Value} {f g:aj->aq->Option V} (hf:mP u f) (hg:mP u g):mP u (VZ f g):=λU U U U U us v h gc e=>(OE e).elim (hf us v h gc) (hg us v h gc)
def g0:=VZ A8 wY
theorem Rp:mP (.builtin "sum") g0:=XD XA Rq
end
section
section
variable{prog:Program} {w:World} {A:Around} {E:aJ} {s:Shared}
def iq:=@Nat.add_assoc
theorem E6 {it t:Addr} {items:dY} (sM:t≠it):∀(n i:Nat) (s:Shared) (Q:bw->Shared->Prop),s.heap.IsListIter it t i->s.heap.IsList t items->i+n<=items.size->
  (∀h',h'.IsListIter it t (i+n)->Heap.ExtBut it s.heap h'->Q ((items.toList.drop i).take n) {s with heap:=h'})->wpAny (model prog w) A (draw (.ref it) n) Q E s:=by
 intro xx
 induction xx with
 |zero=>
  intro i s Q hit _ _ hQ
  exact av (by rw[List.take_zero]at hQ;exact hQ s.heap hit λU U U e=>e)
 |succ n ih=>
  intro i s Q hit ht hle hQ
  have jT:i<items.size:=je (vC (Nat.succ_pos n)) hle
  show wpAny _ _ (pyNext (.ref it)>>=_) Q E s
  refine ai (wpAny_pyNext_list_item hit ht (x:=items[i]) (by simp[jT]) λaV xY zy=>?_)
  refine ai (ef (ih (i+1) _ _ xY (ht.extBut zy.extBut sM) (by rw[iq,gq 1 n];exact hle) λcH So Yh=>av ?_))
  have hd:items.toList.drop i=items[i]::items.toList.drop (i+1):=by simp[rb,jT]
  have :=hQ cH (by rw[show i+(n+1)=i+1+n by rw[iq,gq 1 n]];exact So) λb o hb e=>Yh b o hb (zy.extBut b o hb e)
  rw[hd,List.take_succ_cons]at this
  exact this
def fE:=@Bool.false_eq_true
theorem Au {t:Addr} {items:dY} {targets:List (Bool×(Value->Sem Unit))} {Q:Unit->Shared->Prop} (hh:A.handled=none) (ht:s.heap.IsList t items)
  (hn:targets.length=items.size) (Yi:targets.findIdx? (·.1)=none)
  (h:∀h',Heap.ExtBut s.heap.objs.size s.heap h'->wpAny (model prog w) A (assignInOrder (targets.map (·.2)) items.toList) Q E {s with heap:=h'}):
  wpAny (model prog w) A (unpack (.ref t) targets) Q E s:=by
 have jT:t≠s.heap.objs.size:=by refine x3 (ht) λo ho U=>?_;exact df (cE ho)
 unfold unpack
 rw[hn,Yi]
 refine ai (ef ?_)
 unfold unpackItems
 refine ai ?_
 unfold notIterableAtAll
 refine ai (wpAny_specialOf ht.typeIs F.slot_list_iter.lookup (av ?_))
 simp only[fE,d8]
 refine ai (ef (mn ht ?_))
 refine ai (ef (E6 jT items.size 0 _ _ ⟨_,bj _ rfl,rfl,rfl⟩ (ht.push _) (by rw[cc];exact aF _) λaV xY zy=>?_))
 rw[List.drop_zero,dR (by simp),af (by simp)]
 rw[cc]at xY
 refine ai (ef (wpAny_pyNext_list_end hh xY ((ht.push _).extBut zy jT) (by simp) λcH Ys=>?_))
 simp only[Option.isSome_none,fE,d8]
 exact av (h cH λb o hb e=>Ys b o hb (zy b o hb (aZ _ e)))
end
variable{fs:FS} {c:Cx fs} {p q:Pt} {st st':St} {β:Type} {PP:Value->Prop} {Ps:bw->Prop}
def sT (ds:Cw):DA:=λv st=>(xI v).bind λvs=>ds vs st
theorem Wc {es:List Expr} {k:Nat} {pos:Pos} {ds:Cw} (hs:w9 fs es ds):jJ fs (.Tuple es k pos) (sT ds):=by
 intro c p st st' u v h hu q
 refine Np u q hu λa us vs ht qg q U U hk=>?_
 rw[arm_assign_Tuple]
 refine ai (fY (Au c.r.handled (ht.isList h.inv.eC) (by rw[(hs.sh _).1,<-hs.len _ _ _ q,<-bS.length qg];rfl) (hs.sh _).2 λh' hx=>?_))
 have n:Nx c p st (p.hp h' p.s.toks):=h.grow λb o e=>hx b o (df (cE e)) e
 exact hs.go n.h (n.y4 qg) q λU U aw=>hk _ _ (n.tr aw)
theorem Lr {x:Str} {np pos:Pos} {T:String} {e:Expr} {es:List Expr} {f:aj->aq->Option V} {ds:DL} (hb:G.bi x=some (.type T)) (hf:mP (.type T) f) (hs:pE fs (e::es) ds) (hx:d6 fs x) (hp:cK pos e es):bX fs (.Call (.Name x np) (e::es) [] pos) (a5 f ds):=by
 intro c p st h
 exact .bind λws st₁ e1=>.map λv e2 U U hk=>zK hb hs hx hp h e1 λus q n hu=>hf us v n.h hu e2 λU U aw hv=>hk _ _ (n.tr aw) hv
def zC (_:aj) (vs:aq):Option V:=(lQ vs).bind λv=>(xI v).bind λl=>if l.length<=16777216 then some (.tup l)else none
theorem Ro:mP (.type "tuple") zC:=λU c p U U us v h gc e=>jS us e gc λu x hu e=>Np u e hu λa ws l ht hv e=>sL v e λhz U U hk=>call_tuple_list (ht.isList h.inv.eC) (λh' gr=>by
 have n:=h.grow (t:=p.s.toks) gr
 exact(n8 n.h (n.y4 hv) hz λa q aw=>hk a q (n.tr aw)).2) (by rw[j4,bS.length hv];exact hz)
def allB:aq->Option (List Bool)
 |[]=>some []
 |v::l=>(OW v).bind λb=>(allB l).map (b::·)
theorem MY {vs:aq}:∀{us:bw} {bs:List Bool},bS p us vs->allB vs=some bs->us=bs.map .bool:=by
 induction vs with
 |nil=>exact λh e=>(show _=[]from h).trans (by cases e;rfl)
 |cons v vs ih=>
  refine λ{us bs} h e=>gX us h λu us h1 h2=>?_
  refine x3 (aM.1 e) λb e1 e=>?_
  obtain⟨r,e2,rfl⟩:=aO.1 e
  rw[ih h2 e2]
  exact ur u (show VR p u (.bool b)from pX e1▸h1) rfl
def md:=@List.getElem_mem
theorem JG (bs:List Bool):((List.range bs.length).all λi=>bs.getD i true)=bs.all id:=by
 rw[iu,aI,aI]
 exact⟨λh b m=>(List.getElem_of_mem m).elim λi w=>w.elim λhi e=>by have :=h i (eF.2 hi);rw[dK,bZ hi,e]at this;exact this,
  λh i m=>by rw[dK,bZ (eF.1 m)];exact h _ (md _)⟩
def F2 (_:aj) (vs:aq):Option V:=(lQ vs).bind λv=>(xI v).bind λl=>(allB l).map λbs=>.bool (bs.all id)
theorem XZ:mP (.builtin "all") F2:=λU c p U U us v h gc e=>jS us e gc λu x hu e=>Np u e hu λa ws l ht hv e=>by
 obtain⟨bs,e2,rfl⟩:=aO.1 e
 have eb:=MY hv e2
 subst eb
 have hl:=ht.isList h.inv.eC
 have jT:a<p.s.heap.objs.size:=hl.elim λU e=>cE e.1
 intro K E hk
 refine call_all_walk (mn hl ⟨_,_,_,_,_,_,λi=>bs.getD i true,rfl,Walks.list (A:=c.A.in1) c.r.handled _ a (df jT) (bs.map Value.bool).toArray,⟨⟨_,bj _ rfl,rfl,rfl⟩,hl.push _⟩,λi v s Q E hP hQ=>?_,λh' tk rz=>?_⟩)
 ·replace hP:(bs.map Value.bool).toArray[i]?=some v:=hP
  rw[f9,aQ]at hP
  obtain⟨b,hb,rfl⟩:=aO.1 hP
  replace hQ:Q (bs.getD i true) s:=hQ
  rw[dK,hb]at hQ
  exact jC hQ
 ·have n:=h.grow (h':=h') (t:=tk) λb o e=>rz b o (λhm=>absurd (cE (a7.1 hm▸e)) (gO _)) (aZ _ e)
  refine hk _ _ n (ak Value.bool ?_)
  rw[j4,aD]
  exact JG bs
theorem xk {x:ar} {acc:dY} (ia:ItemsOf (SignAt (S x)) acc (S x).cps.size) (r:Pt):bS r acc.toList (x.map λc=>V.str [c]):=by
 have :=Ac (p:=r) (x.map λc=>[c]) acc.toList (by rw[jf,ia.1,aD];rfl) λj u hu=>by
  obtain⟨d,t',h1,rfl⟩:=ia.2 j u (by rw[<-qY];exact hu)
  refine⟨[d],?_,.str (ay rfl)⟩
  rw[aQ,show x[j]?=some d from(qY ..).trans h1];rfl
 rw[br]at this
 exact this
def zD (_:aj) (vs:aq):Option V:=(lQ vs).bind λv=>(nP v).bind λx=>some (.lst (x.map λc=>.str [c]))
theorem RC:mP (.type "list") zD:=λU c p U U us v h gc e=>jS us e gc λu x hu e=>y7 u e hu λx hz t e K E hk=>by
 cases e
 refine call_list_str c.r.handled (S x) t (λh' tk acc k gr ho ia=>?_) (by rw[cU];exact hz)
 exact hk _ _ (h.made (t:=tk) gr (dT p) ho) (.lst (us:=acc.toList) ⟨by rw[jf,ia.1];exact hz,k,PH.cB _ _ _⟩ (xk ia _))
def oJ:=@List.getElem?_eq_none
theorem W_ (x:ar) (u:Tok):Txt.sliceBy (S x) none none (-1,u)=S x.reverse:=by
 have e:=step_rev_list (S x) u
 rw[ij]at e
 refine(KN _).symm.trans (ak S (e.trans (List.ext_getElem? λi=>?_)))
 by_cases hi:i<x.length
 ·rw[aQ,mu hi,List.getElem?_reverse hi]
  have hj:x.length-1-i<x.length:=iC (Nat.sub_le ..) (Nat.sub_lt (iC (bN _) hi) Nat.one_pos)
  rw[bZ hj]
  show some ((S x).cps.getD (x.length-1-i) 0)=_
  simp[S,hj]
 ·rw[oJ (by rw[aD,ez];exact ja hi),oJ (by rw[List.length_reverse];exact ja hi)]
def w5 (d ds:D):D:=λst=>(d st).bind λx=>(ds x.2).bind λy=>(nP x.1).bind λs=>(mE y.1).bind λk=>if k=-1 then some (.str s.reverse,y.2)else none
theorem Xb {e es:Expr} {sp pos:Pos} {d ds:D} (hd:bX fs e d) (hs:bX fs es ds):bX fs (.Subscript e (.Slice none none (some es) sp) pos) (w5 d ds):=by
 intro c p st h
 refine .bind λa st₁ e1=>.bind λb bq e2=>.jn λs e3=>.jn λk e4=>.iff λhk=>.yes λK E K'=>?_
 subst hk
 replace e3:a= .str s:=r8 e3
 replace e4:b= .int (-1):=jN e4
 subst e3
 subst e4
 refine Subscript_ (hd h e1 λu c_ n₁ hu=>wpAny_Slice (qU (qU (wpAny_evalPart_some (hs n₁.h e2 λus cG aw OG=>?_)))))
 have fJ:Nx c cG bq (cG.hp (cG.s.heap.push {cls:=.type "slice",data:=.fields #[.none,.none,us]}) cG.s.toks):=aw.h.grow (pushKeep _ _)
 have hu:=(aw.tr fJ).vr hu
 refine qi u hu λhz t=>?_
 obtain⟨t2,rfl⟩:∃t2,us= .int (-1) t2:=OG
 refine tail_any (fc _ _ t) F.slot_str_getitem.lookup (wpAny_getItem_str_slice (l:=none) (u:=none) (st:=some (-1,t2)) ⟨_,bj _ rfl,rfl,rfl⟩ rfl (post_val_or_str ⟨aA (Txt.sliceBy_le (S s) none none (-1,t2) (show(-1:Int)≠0 by decide)) (by rw[ij,cU];exact hz),λt' k=>?_⟩)) rfl
 have hr:Txt.sliceBy (S s) none none (-1,t2)=S s.reverse:=W_ s t2
 have kf:=n₁.tr (aw.tr (fJ.tr (fJ.h.tok k)))
 have :=K' (.str (Txt.sliceBy (S s) none none (-1,t2)) t') _ kf (by rw[hr];exact .str (by rw[List.length_reverse];exact hz))
 exact this
end
section
variable{fs:FS} {c:Cx fs} {p q:Pt} {st st':St} {β:Type} {PP:Value->Prop} {Ps:bw->Prop}
def zc (f:Bool->Bool) (H:aj) (a b:V):Option Bool:=(b8 H a).bind λl=>(b8 H b).bind λm=>if l.length≠m.length then some (f false)else none
theorem Du {f:Bool->Bool} {op:CmpOp} (hg:∀{A:Around} {E:aJ} {s:Shared} {Q:aJ} {a b:Addr} {xs ys:dY},s.heap.IsList a xs->s.heap.IsList b ys->(xs.size !=ys.size)=true->A.units<cLine->Q (.bool (f false)) s->wpAny cW A (compareOp op (.ref a) (.ref b)) Q E s):
  dG op (zc f):=λU c U U U U u u' v h hu hb e=>by
 refine x3 (aM.1 e) λl e1 e=>?_
 refine x3 (aM.1 e) λm e2 e=>?_
 refine sL v e λhl K E hk=>kA u h hu e1 λa us t1 v1=>kA u' h hb e2 λb ws t2 v2=>?_
 rw[<-bS.length v1,<-bS.length v2]at hl
 exact hg (t1.isList (sub_self _)) (t2.isList (sub_self _)) (bne_iff_ne.2 hl) (iC (f7 _ 64) (Cx.r _).CC) (hk _ _ h.same rfl)
theorem XW:dG .Eq (zc id):=Du λh1 h2 hs hu q=>SeqAt.RcAt.lists_lengths h1 h2 hs hu _ _ _ _ q
theorem XG:dG .NotEq (zc not):=Du λh1 h2 hs hu q=>SeqAt.RcNeAt.lists_lengths h1 h2 hs hu _ _ _ _ q
theorem Rm.abF {l:Nat} {A:Around} (r:Rm l A):A.in1.units+64<cLine:=(u64 r.units (by decide):A.units+65<9900)
def UK (f:Bool->Bool) (_:aj) (a b:V):Option Bool:=(AY a).bind λx=>(AY b).bind λy=>if x.1.length=y.1.length then(if qq a b=true then some (f true)else none)else some (f false)
def og:=@Bool.and_false
theorem Hz {f:Bool->Bool} {op:CmpOp} (hg:∀{A:Around} {E:aJ} {s:Shared} {Q:aJ} {a b:Addr} {ka kb:List (Str×Value)} {r:Bool},(a==sysModules)=false->(b==sysModules)=false->s.heap.DictOf (strKind G.prog G.w) a ka->s.heap.DictOf (strKind G.prog G.w) b kb->A.units<cLine->(ka.length=kb.length->KeqHits A.in1 s kb ka r)->Q (.bool (f (ka.length==kb.length&&r))) s->wpAny cW A (compareOp op (.ref a) (.ref b)) Q E s):
  dG op (UK f):=λU c p U a b u u' v h hu hb e=>by
 refine x3 (aM.1 e) λx e1 e=>?_
 refine x3 (aM.1 e) λy e2 e=>?_
 have ea:=u6 e1
 have eb:=u6 e2
 subst ea eb
 intro K E hk
 refine xN u hu λi us d1 v1 n1=>xN u' hb λj ws d2 v2 n2=>?_
 have l1:((x.1.map S).zip us).length=x.1.length:=by rw[gT,aD,n1,Nat.min_self]
 have l2:((y.1.map S).zip ws).length=y.1.length:=by rw[gT,aD,n2,Nat.min_self]
 by_cases hl:x.1.length=y.1.length
 ·rw[ag hl]at e
  refine hg (r:=true) (bu.2 d1.1.2) (bu.2 d2.1.2) (d1.dictOf h.inv.eC) (d2.dictOf h.inv.eC) (iC (f7 _ 64) (Cx.r _).CC) (λU=>?_) ?_
  ·by_cases hd:qq (.eK x.1 x.2) (.eK y.1 y.2)=true
   ·unfold qq at hd
    simp only[aax,iA,iw,oy,bp,beq_iff_eq]at hd
    obtain⟨⟨⟨ek,o1⟩,o2⟩,ev⟩:=hd
    rw[ek]
    exact xr d2.nd h.inv.eC (Cx.r _).abF (λp q=>q) v1 v2 o1 o2 ev
   ·rw[af hd]at e;cases e
  ·rw[l1,l2,hl,beq_self_eq_true]
   refine hk _ _ h.same ?_
   by_cases hd:qq (.eK x.1 x.2) (.eK y.1 y.2)=true
   ·rw[ag hd]at e;cases e;rfl
   ·rw[af hd]at e;cases e
 ·rw[af hl]at e
  cases e
  refine hg (r:=false) (bu.2 d1.1.2) (bu.2 d2.1.2) (d1.dictOf h.inv.eC) (d2.dictOf h.inv.eC) (iC (f7 _ 64) (Cx.r _).CC) (λe=>absurd (l1.symm.trans (e.trans l2)) hl) ?_
  rw[og]
  exact hk _ _ h.same rfl
theorem XX:dG .Eq (UK id):=Hz λa b d1 d2 hu hh q=>keq_eq a b d1 d2 hu hh q
theorem XH:dG .NotEq (UK not):=Hz λa b d1 d2 hu hh q=>keq_ne a b d1 d2 hu hh q
def eqZ:=AQ Nj (AQ (zc id) (UK id))
def mG:=AQ J3 (AQ (zc not) (UK not))
theorem XR:dG .Eq eqZ:=pI XS (pI XW XX)
theorem XE:dG .NotEq mG:=pI XF (pI XG XH)
def three (v:V):Option (V×V×V):=(Fv v).bind λl=>match l with
 |[a,b,c]=>some (a,b,c)
 |_=>none
theorem Ig {v:V} {x:V×V×V} (h:three v=some x):v= .tup [x.1,x.2.1,x.2.2]:=by
 refine x3 (aM.1 h) λl e h=>?_
 rw[u5 e]
 cases l with
 |nil=>cases h
 |cons a l=>cases l with
  |nil=>cases h
  |cons b l=>cases l with
   |nil=>cases h
   |cons d l=>cases l with
    |nil=>cases h;rfl
    |cons=>cases h
def HA (k₁ k₂ Ko:Nat) (d:D):DS:=λst=>(d st).bind λx=>(three x.1).map λy=>(.next,{x.2 with loc:=((x.2.loc.set Ko (some y.2.2)).set k₂ (some y.2.1)).set k₁ (some y.1)})
theorem Q2 {k₁ k₂ Ko:Nat} {x y z:Str} {ts:List Expr} {k:Nat} {tp pos:Pos} {value:Expr} {d:D} (hd:bX fs value d) (n1:isName fs k₁ x .local) (n2:isName fs k₂ y .local) (n3:isName fs Ko z .local) (nd:(fs.names.map (·.1)).Nodup)
  (hs:swapsWithSole [.Tuple ts k tp] value pos.line (fK fs)=pure false) (hw:swappedStores [.Tuple ts k tp] value (fK fs)=pure (some [x,y,z])):kh fs (.Assign [.Tuple ts k tp] value pos) (HA k₁ k₂ Ko d):=by
 intro c p st h
 refine .bind λv st₁ e1=>.map λw e2 K E hk=>?_
 show wpAny _ c.A (do
   standAt pos
   if <-swapsWithSole [.Tuple ts k tp] value pos.line c.env then do
    evalThenUse value c.env λv=>assignAll v ((assignEach [.Tuple ts k tp] c.env).map (·.2))
    pure .next
   else do
    let v<-eval value c.env
    assignStores c.env v (<-swappedStores [.Tuple ts k tp] value c.env) ((assignEach [.Tuple ts k tp] c.env).map (·.2))) _ _ _
 refine ai (fY ?_)
 rw[(c.ph _ _ _).trans hs,(c.tJ _ _).trans hw]
 refine ai (av (ai (hd h e1 λu q n hu=>ai (av ?_))))
 refine qh u (show VR q u (.tup [w.1,w.2.1,w.2.2])from Ig e2▸hu) λt us ht qg=>?_
 refine gX (Ps:=λus=>rM q.Φ t us->_) us qg (λua us Fp qg=>gX (Ps:=λus=>rM q.Φ t (ua::us)->_) us qg λub us FD qg=>qt us qg λuc huc ht=>?_) ht
 show wpAny _ c.A (do
   rule "assign.swapped-stores"
   let items<-unpackItems (.ref t) [x,y,z].length none
   assignInOrder ([x,y,z].reverse.map λn=>bindName c.env n) items.reverse
   pure Flow.next) _ _ _
 refine ai (jw (ai (wpAny_unpackItems_tuple (items:=#[ua,ub,uc]) c.r.handled (ht.isTup n.h.inv.eC) λh' hx=>?_)))
 have aw:Nx c q st₁ (q.hp h' q.s.toks):=n.h.grow λb o e=>hx b o (df (cE e)) e
 exact ai (mz (oh (mW aw.h (aw.vr huc) n3 nd λU jk bE U=>mz (oh (mW bE.h ((aw.tr bE).vr FD) n2 nd λU iU fJ U=>
  mz (oh (mW fJ.h ((aw.tr (bE.tr fJ)).vr Fp) n1 nd λU O7 kf U=>av (av (hk _ _ (n.tr (aw.tr (bE.tr (fJ.tr kf)))) rfl)))))))))
end
section
variable{fs:FS} {c:Cx fs} {p q:Pt} {st st':St} {β:Type} {PP:Value->Prop} {Ps:bw->Prop}
noncomputable def D' (c:Nat):ar->ar
 |[]=>[c]
 |d::l=>if c<=d then c::d::l else d::D' c l
noncomputable def qn:ar->ar
 |[]=>[]
 |c::l=>D' c (qn l)
theorem xq (c:Nat):∀l,(D' c l).Perm (c::l):=by
 intro l
 induction l with
 |nil=>exact .refl _
 |cons d l ih=>
  show(if c<=d then c::d::l else d::D' c l).Perm _
  by_cases h:c<=d
  ·rw[ag h]
  ·rw[af h];exact(ih.cons d).trans (.swap c d l)
theorem p5:∀l,(qn l).Perm l:=by
 intro l
 induction l with
 |nil=>exact .refl _
 |cons c l ih=>exact(xq c _).trans (ih.cons c)
theorem Mf (c:Nat):∀l,l.Pairwise (·<=·)->(D' c l).Pairwise (·<=·):=by
 intro l
 induction l with
 |nil=>exact λU=>vB _ _
 |cons d l ih=>
  intro h
  have w:=jd.1 h
  show(if c<=d then c::d::l else d::D' c l).Pairwise _
  by_cases q:c<=d
  ·rw[ag q]
   exact jd.2 ⟨λx m=>(aC.1 m).elim (λe=>e▸q) λm=>aA q (w.1 x m),h⟩
  ·rw[af q]
   exact jd.2 ⟨λx m=>(aC.1 ((xq c l).mem_iff.1 m)).elim (λe=>e▸Nat.le_of_not_le q) (w.1 x),ih w.2⟩
theorem Im:∀l,(qn l).Pairwise (·<=·):=by
 intro l
 induction l with
 |nil=>exact .nil
 |cons c l ih=>exact Mf c _ ih
def mh:=@Bool.not_eq_true'
theorem Ez (f:Nat->Str) (hf:∀a b,PySem.Spec.ltCps (f b).cps.toList (f a).cps.toList=decide (b<a)):∀(p:Nat) (l:ar),risingS (f p) (l.map f)=true->(p::l).Pairwise (·<=·):=by
 intro p l
 induction l generalizing p with
 |nil=>exact λU=>vB _ _
 |cons a l ih=>
  intro h
  have h:(!PySem.Spec.ltCps (f a).cps.toList (f p).cps.toList&&risingS (f a) (l.map f))=true:=h
  rw[bp,hf,mh,decide_eq_false_iff_not]at h
  have w:=ih a h.2
  have q:=ja h.1
  exact jd.2 ⟨λx m=>(aC.1 m).elim (λe=>e▸q) λm=>aA q ((jd.1 w).1 x m),w⟩
theorem Et {x:ar} {ss:List Str} (hp:ss.Perm (x.map λc=>S [c])) (hs:sortedS ss=true):ss=(qn x).map λc=>S [c]:=by
 have e:ss=(ss.map λs=>s.cps.toList.headD 0).map λc=>S [c]:=by
  rw[br]
  conv=>lhs;rw[<-List.map_id ss]
  exact jg λs m=>by
   obtain⟨c,_,rfl⟩:=aY.1 (hp.mem_iff.1 m);rfl
 have pm:(ss.map λs=>s.cps.toList.headD 0).Perm x:=by
  have :=hp.map λs=>s.cps.toList.headD 0
  rw[br]at this
  exact this.trans (by rw[show((λs:Str=>s.cps.toList.headD 0)∘λc=>S [c])=_root_.id from rfl,List.map_id])
 rw[e]at hs |-
 generalize(ss.map λs=>s.cps.toList.headD 0)=y at hs pm
 refine ak (List.map _) (List.Perm.eq_of_pairwise (le:=(·<=·)) (λa b U U h k=>kO h k) ?_ (Im x) (pm.trans (p5 x).symm))
 cases y with
 |nil=>exact .nil
 |cons a y=>exact Ez (λc=>S [c]) (λa b=>by show(decide (b<a)||(b==a&&PySem.Spec.ltCps [] []))=_;rw[show PySem.Spec.ltCps [] []=false from rfl,og,Bool.or_false]) a y hs
theorem Av:∀x:ar,qm (x.map λc=>V.str [c])=some (x.map λc=>[c]):=by
 intro x
 induction x with
 |nil=>rfl
 |cons c x ih=>show((qm (x.map λc=>V.str [c])).map ([c]::·))=_;rw[ih];rfl
def BG (_:aj) (vs:aq):Option V:=(lQ vs).bind λv=>(nP v).bind λx=>if x.length<64 then some (.lst ((qn x).map λc=>.str [c]))else none
theorem LD:mP (.builtin "sorted") BG:=λU c p U U us v h gc e=>jS us e gc λu x hu e=>y7 u e hu λx hz t e=>sL v e λh64 K E hk=>by
 refine Calls.call_function_entry kind_sorted plain_sorted entry_sorted (args_sorted1 _) ?_
 unfold Builtin.«sorted»
 refine ai (m:=checkCount "sorted" 1 1 _) (av ?_)
 refine ai (wpAny_collect_str (A:=c.A.in1) c.r.handled (S x) t (λs' acc gr hg hd Cr ia=>?_) (by rw[cU];exact hz))
 obtain⟨h1,g1,d1,t1,o1⟩:=s'
 cases hg;cases hd;cases Cr
 have n1:=h.grow (t:=t1) gr
 have hS:StrsAre acc.toList (x.map λc=>S [c]):=by
  have :=zW (xk ia p) (Av x)
  rw[br]at this
  exact this
 have hlen:acc.toList.length<64:=by rw[jf,ia.1];exact h64
 refine ai (wpAny_newList ?_ (by rw[jf,ia.1,cU];exact hz))
 have ho:(h1.push (seqObj "list" acc.toList.toArray 0)).get? h1.objs.size=some (seqObj "list" acc.toList.toArray 0):=bj _ rfl
 refine ai (ef (j0 slot_list_sort ⟨_,ho,rfl⟩ entry_list_sort (list_sort_treeK strKind_oneLt ho hS.keysOf (λaeK aeJ rest e=>keyKind_strs (by rw[<-e];exact hS)) hlen λst' a1 a2=>⟨_,rfl,?_⟩) (args_list_sort _)))
 obtain⟨ss,s1,s2,s3⟩:=sorted_out_str hS a1 a2
 have s4:=Et s2 s3
 subst s4
 obtain⟨e1,J'⟩:=sortedHeap_at (out:=(arrOf st').map (·.2)) ho
 have gr':∀b o,p.s.heap.get? b=some o->(sortedHeap (h1.push (seqObj "list" acc.toList.toArray 0)) h1.objs.size acc.toList ((arrOf st').map (·.2))).get? b=some o:=λb o e=>by
  have hb:=gr b o e
  have jT:=cE hb
  rw[sortedHeap_old (df jT) (by rw[size_push'];exact qO jT)]
  exact aZ _ hb
 have hn:p.s.heap.get? h1.objs.size=none:=by
  cases q:p.s.heap.get? h1.objs.size with
  |none=>rfl
  |some o=>exact absurd (cE (gr _ _ q)) (gO _)
 have hv:∀r:Pt,bS r ((arrOf st').map (·.2)).toList ((qn x).map λc=>V.str [c]):=λr=>by
  have :=Ac (p:=r) ((qn x).map λc=>[c]) ((arrOf st').map (·.2)).toList (by rw[s1.length,aD,aD]) λj u hu=>by
   obtain⟨y,t',rfl,hy⟩:=s1.item j u hu
   rw[aQ]at hy |-
   obtain⟨d,hd,rfl⟩:=aO.1 hy
   exact⟨[d],by rw[hd];rfl,.str (ay rfl)⟩
  rw[br]at this
  exact this
 exact av ⟨_,rfl,hk _ _ (h.made (t:=t1) gr' hn J') (.lst (us:=((arrOf st').map (·.2)).toList) ⟨by rw[s1.length,aD,(p5 x).length_eq];exact hz,e1,PH.cB _ _ _⟩ (hv _))⟩
end
section
section
variable{A:Around} {s:Shared}
theorem AJ (elt t0 i0 t1 i1:Expr) (f0 f1:List Expr) (scope:Scope) (pos:Pos) (it acc:Value) (env:Env):
  compTurn (.ListComp elt [⟨t0,i0,f0,0⟩,⟨t1,i1,f1,0⟩] scope pos) 0 it acc env=(do
   standAt i0.pos
   match <-pyNext it with
   |none=>pure (.done .next)
   |some v=>
    letOwnedTupleGo t0 it v
    assign t0 env v
    let mut ok:=true
    for c in f0 do
     if ok then ok<-isTrue c env (eval c env)
    if ok then
     let x<-eval i1 env
     standAt i1.pos
     let x<-foldedSetIterable i1 env x
     let _<-runOwn (.compStart (.ListComp elt [⟨t0,i0,f0,0⟩,⟨t1,i1,f1,0⟩] scope pos) 1 (<-holding [x] (pyIter x)) acc env) env
    again (.compLoop (.ListComp elt [⟨t0,i0,f0,0⟩,⟨t1,i1,f1,0⟩] scope pos) 0 it acc env)):=by rfl
theorem AI (elt t0 i0 t1 i1:Expr) (f0 f1:List Expr) (scope:Scope) (pos:Pos) (it acc:Value) (env:Env):
  compTurn (.ListComp elt [⟨t0,i0,f0,0⟩,⟨t1,i1,f1,0⟩] scope pos) 1 it acc env=(do
   standAt i1.pos
   match <-pyNext it with
   |none=>pure (.done .next)
   |some v=>
    letOwnedTupleGo t1 it v
    assign t1 env v
    let mut ok:=true
    for c in f1 do
     if ok then ok<-isTrue c env (eval c env)
    if ok then
     (do let _<-call (.builtin "list.append") [acc,<-eval elt env])
    again (.compLoop (.ListComp elt [⟨t0,i0,f0,0⟩,⟨t1,i1,f1,0⟩] scope pos) 1 it acc env)):=by rfl
theorem R4 {prog:Program} {w:World} {elt t0 i0 t1 i1:Expr} {f0 f1:List Expr} {scope:Scope} {pos:Pos} {it acc:Value} {env:Env} {R:Result->Shared->Prop} (J:Nat->Shared->Prop)
  (turn:∀n s,J n s->wpAny (model prog w) A (pyNext it) (λr b7=>match r with
   |none=>R (.ok .next) b7
   |some v=>wpAny (model prog w) A (letOwnedTupleGo t1 it v) (λU kj=>wpAny (model prog w) A (assign t1 env v) (λU mJ=>
     wpAny (model prog w) A (qx f1 env) (λok j'=>
      if ok=true then wpAny (model prog w) A (eval elt env) (λx bR=>wpAny (model prog w) A (call (.builtin "list.append") [acc,x]) (λU gW=>∃m,m<n/\J m gW) (notedBy (model prog w) A env λe s'=>R (.error e) s') bR) (notedBy (model prog w) A env λe s'=>R (.error e) s') j'
      else∃m,m<n/\J m j') (notedBy (model prog w) A env λe s'=>R (.error e) s') mJ) (notedBy (model prog w) A env λe s'=>R (.error e) s') kj) (notedBy (model prog w) A env λe s'=>R (.error e) s') b7) (notedBy (model prog w) A env λe s'=>R (.error e) s') s)
  (n:Nat) (h:J n s):codeAny (model prog w) A (.compLoop (.ListComp elt [⟨t0,i0,f0,0⟩,⟨t1,i1,f1,0⟩] scope pos) 1 it acc env) R s:=by
 refine codeAny_loop rfl J (λn s hI=>?_) n h
 show wpAny _ A ((compTurn (.ListComp elt [⟨t0,i0,f0,0⟩,⟨t1,i1,f1,0⟩] scope pos) 1 it acc env).onRaise (λx=>do noteFrame x env;theTreesLotGoes x)) _ _ s
 refine wpAny_noted ?_
 rw[AI]
 refine ai (fY (ai (bV (turn n s hI) (λr b7 aV=>?_) λU U h'=>h')))
 cases r with
 |none=>exact av aV
 |some v=>
  refine ai (bV aV (λU kj uG=>ai (bV uG (λU mJ cH=>ai (bV cH (λok j' jI=>?_) λU U h'=>h')) λU U h'=>h')) λU U h'=>h')
  cases ok with
  |false=>exact av ⟨rfl,jI⟩
  |true=>exact ai (ai (bV jI (λx bR nD=>ai (bV nD (λU gW mK=>av (av ⟨rfl,mK⟩)) λU U h'=>h')) λU U h'=>h'))
theorem R5 {prog:Program} {w:World} {elt t0 i0 t1 i1:Expr} {f0 f1:List Expr} {scope:Scope} {pos:Pos} {it acc:Value} {env:Env} {R:Result->Shared->Prop} (hs:∀x,foldedSetIterable i1 env x=pure x) (J:Nat->Shared->Prop)
  (turn:∀n s,J n s->wpAny (model prog w) A (pyNext it) (λr b7=>match r with
   |none=>R (.ok .next) b7
   |some v=>wpAny (model prog w) A (letOwnedTupleGo t0 it v) (λU kj=>wpAny (model prog w) A (assign t0 env v) (λU mJ=>
     wpAny (model prog w) A (qx f0 env) (λok j'=>
      if ok=true then wpAny (model prog w) A (eval i1 env) (λx bR=>wpAny (model prog w) A (pyIter x) (λUA gW=>codeAny (model prog w) A (.compStart (.ListComp elt [⟨t0,i0,f0,0⟩,⟨t1,i1,f1,0⟩] scope pos) 1 UA acc env)
        (λr jH=>match r with| .ok _=>∃m,m<n/\J m jH| .error e=>cameBackBy (model prog w) A env (notedBy (model prog w) A env λe s'=>R (.error e) s') e jH) gW) (notedBy (model prog w) A env λe s'=>R (.error e) s') bR) (notedBy (model prog w) A env λe s'=>R (.error e) s') j'
      else∃m,m<n/\J m j') (notedBy (model prog w) A env λe s'=>R (.error e) s') mJ) (notedBy (model prog w) A env λe s'=>R (.error e) s') kj) (notedBy (model prog w) A env λe s'=>R (.error e) s') b7) (notedBy (model prog w) A env λe s'=>R (.error e) s') s)
  (n:Nat) (h:J n s):codeAny (model prog w) A (.compLoop (.ListComp elt [⟨t0,i0,f0,0⟩,⟨t1,i1,f1,0⟩] scope pos) 0 it acc env) R s:=by
 refine codeAny_loop rfl J (λn s hI=>?_) n h
 show wpAny _ A ((compTurn (.ListComp elt [⟨t0,i0,f0,0⟩,⟨t1,i1,f1,0⟩] scope pos) 0 it acc env).onRaise (λx=>do noteFrame x env;theTreesLotGoes x)) _ _ s
 refine wpAny_noted ?_
 rw[AJ]
 refine ai (fY (ai (bV (turn n s hI) (λr b7 aV=>?_) λU U h'=>h')))
 cases r with
 |none=>exact av aV
 |some v=>
  refine ai (bV aV (λU kj uG=>ai (bV uG (λU mJ cH=>ai (bV cH (λok j' jI=>?_) λU U h'=>h')) λU U h'=>h')) λU U h'=>h')
  cases ok with
  |false=>exact av ⟨rfl,jI⟩
  |true=>
   refine ai (bV jI (λx bR nD=>ai (fY (ai (wpAny_of_eq (hs x) (ai (ef (bV nD (λUA gW mK=>ai (wpAny_runOwn (codeAny_mono mK (λr jH Ks=>?_)))) λU U h'=>h'))))))) λU U h'=>h')
   cases r with
   |ok f=>exact av ⟨rfl,Ks⟩
   |error e=>exact Ks
end
theorem Lf {prog:Program} {w:World} {A:Around} {s:Shared} {R:Result->Shared->Prop} {elt t0 i0 t1 i1:Expr} {f0 f1:List Expr} {scope:Scope} {pos:Pos} {it acc:Value} {env:Env}
  (h0:codeAny (model prog w) A (.compLoop (.ListComp elt [⟨t0,i0,f0,0⟩,⟨t1,i1,f1,0⟩] scope pos) 1 it acc env) R s)
  (h:wpAny (model prog w) A (pyIter it) (λit' s'=>codeAny (model prog w) A (.compLoop (.ListComp elt [⟨t0,i0,f0,0⟩,⟨t1,i1,f1,0⟩] scope pos) 1 it' acc env) R s')
   (notedBy (model prog w) A env λx s'=>R (.error x) s') s):
  codeAny (model prog w) A (.compStart (.ListComp elt [⟨t0,i0,f0,0⟩,⟨t1,i1,f1,0⟩] scope pos) 1 it acc env) R s:=by
 refine codeAny_of_tree ?_
 show wpAny _ _ ((compStart (.ListComp elt [⟨t0,i0,f0,0⟩,⟨t1,i1,f1,0⟩] scope pos) 1 it acc env).onRaise (λx=>do noteFrame x env;standAt theWindowsPlace)) _ _ s
 refine wpAny_notedAt ?_
 unfold compStart
 show wpAny _ _ (ask>>=_) _ _ s
 refine ai (wpAny_askSetting (wpAny_ite ?_))
 split
 ·first
   |exact ai (av (av (And.intro rfl h0)))
   |exact av (And.intro rfl h0)
 ·refine ai (jw ?_)
  show wpAny _ _ (standAt i1.pos>>=_) _ _ s
  exact ai (fY (ai (bV h (λit' s' h'=>av (And.intro rfl h')) λU U x=>x)))
variable{fs:FS} {c:Cx fs} {p q r jU:Pt} {st st' st₁:St} {scope:Scope} {js:List (Option Nat)} {X:Addr->Prop} {D:Addr} {EN:aJ}
def lq (di:DI) (da:DA) (dt:DT) (de:bJ->gf) (acc:bJ) (st:Internal.St):Option (bJ×Internal.St):=(di st).bind λx=>gh da dt de x.1 acc x.2
theorem Own.plus {Y:Addr->Prop} (h:SR c st p) (own:∀b,Y b->Own c p b) {b:Addr} (o:Own c q b) (n:¬Y b):Own (h.cx own) q b:=⟨(PH.kE n).trans o.kp,o.eC,o.tF,o.yZ,o.ex⟩
theorem Own.less {Y:Addr->Prop} (h:SR c st p) (own:∀b,Y b->Own c p b) {b:Addr} (o:Own (h.cx own) q b):Own c q b:=⟨le_none (PH.o9 h.inv.kp) o.kp,o.eC,o.tF,o.yZ,o.ex⟩
theorem Z6 {elt t0 i0 t1 i1:Expr} {f0 f1:List Expr} {sc:Scope} {pos:Pos} {di:DI} {da:DA} {dt:DT} {de:Internal.D} (hi:k8 fs t1 i1 di) (ha:jJ fs t1 da) (ht:gF fs f1 dt) (he:bX fs elt de) (hD:X D):
  u9 c X D (lq di da dt (aK de)) (λK s=>wpAny cW c.A (eval i1 c.env) (λx bR=>wpAny cW c.A (pyIter x) (λUA gW=>codeAny cW c.A (.compStart (.ListComp elt [⟨t0,i0,f0,0⟩,⟨t1,i1,f1,0⟩] sc pos) 1 UA (.ref D) c.env)
   (λr jH=>match r with| .ok _=>K jH| .error e=>cameBackBy cW c.A c.env EN e jH) gW) EN bR) EN s):=by
 intro p st acc h own A6 r e K hK
 refine x3 (aM.1 e) λx e1 e2=>?_
 refine hi (h.plus own) e1 λI wr T q hr=>?_
 have n1:=hr.nx.minus h own
 have VH:∀b,X b->Own c q b:=λb hb=>(own b hb).tI hr.nx.a
 have NR:∀b o,X b->p.s.heap.get? b=some o->q.s.heap.get? b=some o:=λb o hb e=>h.held own hr.nx.h hb e
 have acf:OR q D acc:=A6.mono hr.nx.a.toLe λo e=>NR D o hD e
 have VG:∀b∈wr,Own c q b:=λb hb=>(hr.own b hb).less h own
 have newX:∀b∈wr,¬X b:=λb hb hx=>(own b hx).ex.not (hr.new b hb)
 have Kc:D∉wr:=λm=>newX D m hD
 have D8:∀b,(X b/\b≠D)->Own c q b:=λb hb=>VH b hb.1
 have h2:=n1.h.plus D8
 have loop:=R4 (A:=c.A) (t0:=t0) (i0:=i0) (f0:=f0) (scope:=sc) (pos:=pos) (it:=.ref I) (acc:=.ref D) (env:=c.env) (elt:=elt) (i1:=i1) (R:=λr jH=>match r with| .ok _=>K jH| .error e=>cameBackBy cW c.A c.env EN e jH) _
  (xA (c:=n1.h.cx D8) (p:=q) hr.J7 ⟨λU U e=>e,bY _⟩ Kc ha ht (CW he (.inr rfl)) λiU h' tk S rz=>?_) _ ⟨0,q,x.2,acc,rfl,rfl,bN _,⟨h2.same,hr.J2,acf,λb hb=>hb.elim (λhb=>(VG b hb).plus n1.h D8 λz=>newX b hb z.1) λhb=>hb▸(VH D hD).plus n1.h D8 λz=>z.2 rfl⟩,e2⟩
 ·exact Lf loop (hr.J7.self 0 _ _ _ c.r.handled hr.J2 loop)
 ·have n3:=S.nx.minus n1.h D8
  have n4:Nx c p r.2 (iU.hp h' tk):=(n1.tr n3).fin (λb hb=>(VG b hb).tI S.nx.a) rz hr.new
  refine hK _ n4 (S.acc.mono ⟨λU U e=>e,bY _⟩ λo e=>rz D o Kc e) λb o hb hn e=>rz b o (λm=>newX b m hb) (n1.h.held D8 S.nx.h ⟨hb,hn⟩ (NR b o hb e))
section
variable{elt t0 i0 t1 i1:Expr} {f0 f1:List Expr} {pos:Pos} {di di1:DI} {da da1:DA} {dt dt1:DT} {de:Internal.D} {k E:aJ} {y:bJ×Internal.St}
theorem TY (sc:nG fs scope js) (hi:k8 fs t0 i0 di) (ha:jJ (iL fs scope) t0 da) (ht:gF (iL fs scope) f0 dt) (OL:k8 (iL fs scope) t1 i1 di1) (ha1:jJ (iL fs scope) t1 da1) (ht1:gF (iL fs scope) f1 dt1) (he:bX (iL fs scope) elt de) (hs:gj i0) (JO:gj i1) (h:SR c st p)
  (e:a9 di js da dt (lq di1 da1 dt1 (aK de)) (.list []) st=some y) (fin:uM c p y k):wpAny cW c.A (eval (.ListComp elt [⟨t0,i0,f0,0⟩,⟨t1,i1,f1,0⟩] scope pos) c.env) k E p.s:=by
 refine x3 (aM.1 e) λx q1 e=>?_
 obtain⟨rr,q2,rfl⟩:=aO.1 e
 rw[arm_eval_ListComp]
 exact oK (use:=none) rfl (hs _) (fR λx hx hf=>sc.cells c (hf▸hx)) sc.kind sc.loc (mB (ELEM:=λc' D EN K s=>wpAny cW c'.A (eval i1 c'.env) (λx bR=>wpAny cW c'.A (pyIter x) (λUA gW=>codeAny cW c'.A (.compStart (.ListComp elt [⟨t0,i0,f0,0⟩,⟨t1,i1,f1,0⟩] scope pos) 1 UA (.ref D) c'.env)
   (λr jH=>match r with| .ok _=>K jH| .error e=>cameBackBy cW c'.A c'.env EN e jH) gW) EN bR) EN s)
  (RR:=λacc C=>compPost cW c.A E none k acc C) h sc hi ha ht m_ rfl (λe U=>qF e) (λhx=>Z6 OL ha1 ht1 he hx) (λJ hJ n s hn=>R5 (JO _) J hJ n hn) q7 q1 q2 λD C q n a oD oC hD hC sM hm=>hm.elim λm hm=>⟨m,hm,λh' sb=>
   have z:=vt n a oD oC hC sM sb;fin D _ z.1 z.2.1 z.2.2 hD⟩)
theorem aa6 (sc:nG fs scope js) (hi:k8 fs t0 i0 di) (ha:jJ (iL fs scope) t0 da) (ht:gF (iL fs scope) f0 dt) (OL:k8 (iL fs scope) t1 i1 di1) (ha1:jJ (iL fs scope) t1 da1) (ht1:gF (iL fs scope) f1 dt1) (he:bX (iL fs scope) elt de) (hs:gj i0) (JO:gj i1):
  bX fs (.ListComp elt [⟨t0,i0,f0,0⟩,⟨t1,i1,f1,0⟩] scope pos) (fS (a9 di js da dt (lq di1 da1 dt1 (aK de)) (.list []))):=by
 intro c p st h
 exact .map λy e U U hk=>TY sc hi ha ht OL ha1 ht1 he hs JO h e (.told hk)
end
end
set_option genSizeOf true
set_option genInjectivity true
section
variable{fs:FS} {c:Cx fs} {p q r:Pt} {st st':St}
noncomputable def asR:V->Option Nat
 | .ref n=>some n
 |_=>none
theorem Up (a:V):(asR a).elim True λi=>a= .ref i:=by cases a<;>first|exact rfl|exact True.intro
theorem Uo {a:V} {i:Nat} (h:asR a=some i):a= .ref i:=(ak (λo=>Option.elim o True λi=>a=V.ref i) h).mp (Up a)
def r7 (n:Nat) (da:DA) (db:DS):Nat->Nat->DS
 |0,_,_=>none
 |f+1,i,st=>(dE st.H n).bind λl=>(l[i]?).elim (some (.next,st)) λv=>(da v st).bind λst₁=>(db st₁).bind λx=>after (r7 n da db f (i+1) x.2) x.2 x.1
def zG (d:D) (da:DA) (db:DS):DS:=λst=>(d st).bind λx=>(asR x.1).bind λn=>r7 n da db 1000 0 x.2
structure LL (c:Cx fs) (p:Pt) (I a:Addr) (n:Nat) (da:DA) (db:DS) (r:Fl×St) (f i:Nat) (q:Pt) (st:St):Prop where
 nx:Nx c p st q
 tF:q.ρ[n]?=some a
 own:Own c q I
 at_:q.s.heap.IsListIter I a i
 d:r7 n da db f i st=some r
def LJ (c:Cx fs) (p:Pt) (I a:Addr) (n:Nat) (da:DA) (db:DS) (r:Fl×St) (f:Nat) (s:Shared):Prop:=∃i q st,q.s=s/\LL c p I a n da db r f i q st
theorem EP {P:Prop} {n f i:Nat} {da:DA} {db:DS} {r:Fl×St} (d:r7 n da db f i st=some r) (h0:∀l,dE st.H n=some l->l[i]?=none->r=(.next,st)->P)
  (h1:∀l v bq fb dM g,f=g+1->dE st.H n=some l->l[i]?=some v->da v st=some bq->db bq=some (fb,dM)->after (r7 n da db g (i+1) dM) dM fb=some r->P):P:=by
 cases f with
 |zero=>cases d
 |succ g=>
  refine x3 (aM.1 d) λl e1 d=>?_
  cases e:l[i]? with
  |none=>rw[e]at d;exact h0 l e1 e (aP d).symm
  |some v=>
   rw[e]at d
   refine x3 (aM.1 d) λbq e2 d=>?_
   obtain⟨⟨fb,dM⟩,e3,d⟩:=aM.1 d
   exact h1 l v bq fb dM g rfl e1 e e2 e3 d
theorem Xl {dA iter:Expr} {body:List Stmt} {pos:Pos} {d:D} {da:DA} {db:DS} (hd:bX fs iter d) (ha:jJ fs dA da) (hb:pR fs body db) (hs:∀env x,foldedSetIterable iter env x=pure x):kh fs (.For dA iter body [] pos) (zG d da db):=by
 intro c p st h
 refine .bind λv st₁ e1=>.jn λn e2=>.of λf st' dd k E hk=>wpAny_For (hd h e1 λu q n1 hu=>?_) (hs _)
 refine uj u (show VR q u (.ref n)from Uo e2▸hu) λa J8=>?_
 refine x3 (aM.1 dd) λl el U=>?_
 refine x3 (n1.h.live el J8) λus t1 v1=>?_
 refine mn (t1.isList (sub_self _)) ?_
 have n2:Nx c q st₁ (q.hp (q.s.heap.push {cls:=.type "list_iterator",data:=.fields #[.ref a,.int 0 0]}) q.s.toks):=n1.h.grow (pushKeep _ _)
 have own:Own c (q.hp (q.s.heap.push {cls:=.type "list_iterator",data:=.fields #[.ref a,.int 0 0]}) q.s.toks) q.s.heap.objs.size:=.new n1.h (dT q) n2 rfl rfl ⟨_,bj _ rfl⟩
 refine codeAny_forLoop_any (LJ c p q.s.heap.objs.size a n da db (f,st')) (λm s ⟨i,c_,stc,es,L⟩=>?_) 1000 ⟨0,_,st₁,rfl,n1.tr n2,J8,own,⟨_,bj _ rfl,rfl,rfl⟩,dd⟩
 subst es
 have abr:p.s.heap.get? q.s.heap.objs.size=none:=p7 n1.a (dT q)
 refine EP L.d (λl e3 e4 er=>?_) λl v bq fb dM g eg e3 e4 e5 e6 d=>?_
 ·refine x3 (L.nx.h.live e3 L.tF) λus t1 v1=>?_
  have hn:us.toArray[i]?=none:=by
   rw[f9]
   exact oJ (by rw[bS.length v1];exact List.getElem?_eq_none_iff.1 e4)
  refine wpAny_pyNext_list_end c.r.handled L.at_ (t1.isList (sub_self _)) hn λh' hx=>?_
  have nf:=L.nx.fin (h':=h') (t:=c_.s.toks) (wr:=[q.s.heap.objs.size]) (lE L.own) (λb o hb e=>hx b o (λz=>hb (z▸.head _)) e) (lE abr)
  cases er
  exact ou (hk _ _ nf rfl)
 ·refine x3 (L.nx.h.live e3 L.tF) λus t1 v1=>?_
  refine x3 (v1.get e4) λu hu hv=>?_
  refine wpAny_pyNext_list_item (x:=u) L.at_ (t1.isList (sub_self _)) (by rw[f9];exact hu) λh' hit sb=>?_
  have n3:Nx c c_ stc (c_.hp h' c_.s.toks):=L.nx.h.own (X:=(·=q.s.heap.objs.size)) (λb hb=>hb▸L.own) (λb o hb e=>(sb.2 b hb).trans e) λb hb=>hb▸hit.elim λo w=>⟨o,w.1⟩
  refine Ag (T:="list_iterator") (hit.imp λo w=>⟨w.1,w.2.1⟩) (by decide) ?_
  have D7:∀b,b=q.s.heap.objs.size->Own c (c_.hp h' c_.s.toks) b:=λb hb=>hb▸L.own.tI n3.a
  refine ha (n3.h.plus D7) (n3.vr hv) e5 λU jk bE U=>hb bE.h e6 λfl iU fJ nJ=>?_
  have x:=n3.a.trans (bE.a.trans fJ.a)
  have kf:Nx c p dM iU:=⟨L.nx.a.trans x,n3.h.minus D7 fJ.h⟩
  exact vh (Go:=∃m',m'<m/\LJ c p q.s.heap.objs.size a n da db (f,st') m' iU.s) (R:=λf=>k f iU.s) nJ d (λd=>⟨g,eg▸jb _,i+1,iU,dM,rfl,kf,qE x.pr L.tF,L.own.tI x,hit.imp λo w=>⟨n3.h.held D7 fJ.h rfl w.1,w.2⟩,d⟩)
   λU e es=>hk _ _ ((show dM=st' from es)▸kf) e
end
section
variable{fs:FS} {c:Cx fs} {p q r:Pt} {st st':St}
theorem I8 {zs:List Int} {us:bw} (hl:us.length=zs.length) (h:∀(j:Nat) (u:Value),us[j]?=some u->∃z t,zs[j]?=some z/\u= .int z t) (r:Pt):bS r us (zs.map .int):=zQ hl h
def CZ (ds:DL):D:=λst=>(ds st).bind λx=>(pk x.1).bind λa=>if yt a.1 a.2.1 a.2.2 then some (.ref x.2.H.length,⟨x.2.H++[some (.list (eZ a.1 a.2.1 a.2.2))],x.2.loc⟩)else none
theorem Xf {x y:Str} {np Uy pos nQ:Pos} {e:Expr} {es:List Expr} {ds:DL} (hb:G.bi x=some (.type "list")) (hb1:G.bi y=some (.type "range")) (hs:pE fs (e::es) ds) (hx:d6 fs x) (hy:d6 fs y) (hp:cK nQ e es) (J9:cK pos (.Call (.Name y Uy) (e::es) [] nQ) []):
  bX fs (.Call (.Name x np) [.Call (.Name y Uy) (e::es) [] nQ] [] pos) (CZ ds):=by
 intro c p st h
 refine .bind λws st₁ e1=>.jn λa e2=>.iff λD3=>.yes λk E hk=>?_
 have D3:=aX.1 D3
 refine jB (sR h hx hb (rg ?_ (J9.1 _) (J9.2 _)))
 rw[J9.1 c.env]
 refine iI (zK hb1 hs hy hp h e1 λus q n hu=>vP hu e2 λh' tk t u v hR gr=>jy ?_)
 have aw:Nx c q st₁ (q.hp h' tk):=n.h.grow gr
 have hnn:Builtin.Range.rangeSize a.1 a.2.1 a.2.2=((Builtin.Range.rangeSize a.1 a.2.1 a.2.2).toNat:Int):=rangeSize_toNat a.1 a.2.1 a.2.2
 refine call_list_range c.r.handled hR D3.1 hnn (of_decide_eq_true D3.2) λh2 tk2 acc k2 gr2 ho ia=>?_
 have f:=xX (l:=eZ a.1 a.2.1 a.2.2) aw.h λa q' n' hv=>hk a q' (n.tr (aw.tr n')) hv
 refine f (t:=tk2) (us:=acc.toList) (dT (q.hp h' tk)) ho gr2 ?_ (by rw[jf,ia.1];exact of_decide_eq_true D3.2)
 have :=I8 (zs:=(List.range (Builtin.Range.rangeSize a.1 a.2.1 a.2.2).toNat).map λ(i:Nat)=>a.1+(i:Int)*a.2.2) (us:=acc.toList) (by rw[jf,ia.1,aD,ez]) (λj u hu=>by
  obtain⟨t,rfl⟩:=ia.2 j u (by rw[<-qY];exact hu)
  have hj:j<acc.toList.length:=(bO.1 hu).1
  rw[jf,ia.1]at hj
  exact⟨_,t,by rw[aQ,mu hj];rfl,rfl⟩) (q.hp h' tk)
 rw[br]at this
 exact this
theorem Ep {O8:Pt} {as:List Addr}:∀{vl:aq} {q:Pt},Nx c O8 st q->(∀a∈as,Own c q a/\O8.s.heap.get? a=none)->as.Nodup->as.length=vl.length->
  (∀(j:Nat) (a:Addr),as[j]?=some a->∃us l,q.s.heap.get? a=some {cls:=.type "tuple",data:=.seq (List.toArray us)}/\us.length<=16777216/\vl[j]?=some (.tup l)/\bS q us l)->
  ∃tE,Nx c O8 st ⟨tE,q.ρ,q.s⟩/\Le q ⟨tE,q.ρ,q.s⟩/\bS ⟨tE,q.ρ,q.s⟩ (as.map .ref) vl/\∀b,b∉as->tE b=q.Φ b:=by
 induction as with
 |nil=>
  intro vl q n ho nd hl hj
  cases vl with
  |nil=>exact⟨q.Φ,n,⟨λU U e=>e,bY _⟩,.nil,λU U=>rfl⟩
  |cons=>cases hl
 |cons a as ih=>
  intro vl q n ho nd hl hj
  cases vl with
  |nil=>cases hl
  |cons v vl=>
   obtain⟨us,l,g1,g2,g3,g4⟩:=hj 0 a rfl
   cases aP g3
   have oa:=ho a (.head _)
   have n1:=n.tell oa.1 oa.2 g1
   have le1:Le q (q.ad a {cls:=.type "tuple",data:=.seq (List.toArray us)}):=Le.ad oa.1.eC
   have nd:=fZ.1 nd
   refine v5 (ih (vl:=vl) n1 (λb hb=>have ob:=ho b (.tail _ hb);⟨⟨ob.1.kp,(PH.jO λ(e:b=a)=>nd.1 (e▸hb)).trans ob.1.eC,ob.1.tF,ob.1.yZ,ob.1.ex⟩,ob.2⟩) nd.2 (iH hl)
    (λj b hb=>(hj (j+1) b hb).imp λus w=>w.imp λl w=>⟨w.1,w.2.1,w.2.2.1,w.2.2.2.mono le1⟩)) λtE m1 m2 m3 m4=>?_
   exact⟨tE,m1,⟨PH.le_trans le1.le m2.le,le1.pr.trans m2.pr⟩,.one (.tup ⟨g2,_,(m4 a nd.1).trans (PH.cB _ _ _),rfl,_,rfl⟩ ((g4.mono le1).mono m2)) m3,λb hb=>(m4 b λz=>hb (.tail _ z)).trans (PH.jO λ(e:b=a)=>hb (e▸.head _))⟩
def qr (d:D):D:=λst=>(d st).bind λx=>(AY x.1).bind λy=>if y.1.length=y.2.length/\fO y.1=true/\y.1.length<=1048576 then some (.lst (cQ y.1 y.2),x.2)else none
theorem Xh {x:Str} {np apos nQ pos:Pos} {o:Expr} {d:D} (hb:G.bi x=some (.type "list")) (hd:bX fs o d) (ha:qu o "items" apos nQ) (hx:d6 fs x) (hp:cK pos (.Call (.Attribute o "items" apos) [] [] nQ) []):
  bX fs (.Call (.Name x np) [.Call (.Attribute o "items" apos) [] [] nQ] [] pos) (qr d):=by
 intro c p st h
 refine .bind λw st₁ e1=>.jn λy e2=>.iff λCt=>.yes λk E hk=>?_
 refine jB (sR h hx hb (rg ?_ (hp.1 _) (hp.2 _)))
 rw[hp.1 c.env]
 refine iI (yD ⟨⟨F.plainAttrs_dict,F.slot_dict_items⟩,F.type_dict_items⟩ hd ha h e1 e2 λq b us ep n JN tb po D hv hlen hT=>
  lY F.slot_dict_items hT F.entry_dict_items (F.args_dict_items_1 _) (meets_dict_items (strKind G.prog G.w) b (bu.2 JN)) ⟨⟨_,D.dictOf⟩,jy ?_⟩)
 have aw:Nx c q st₁ (q.hp (q.s.heap.push {cls:=.type "dict_items",data:=.fields #[.ref b]}) q.s.toks):=n.h.grow (pushKeep _ _)
 have hz:((y.1.map S).zip us).length=y.1.length:=by rw[gT,aD,hlen,Nat.min_self]
 refine kdx_call (knd:=strKind G.prog G.w) c.r.handled ⟨_,bj _ rfl,rfl,rfl⟩ (D.at' λo e=>pushKeep _ _ _ o e) (by rw[hz,cU];exact aA Ct.2.2 (by decide)) λh' tk acc k2 as gr hS hl hG A6=>?_
 generalize hq2:q.hp (q.s.heap.push {cls:=.type "dict_items",data:=.fields #[.ref b]}) q.s.toks=q2 at aw
 have es:(q.s.heap.push {cls:=.type "dict_items",data:=.fields #[.ref b]})=q2.s.heap:=by rw[<-hq2]
 rw[es]at gr hS hG |-
 have n3:Nx c q2 st₁ (q2.hp h' tk):=aw.h.grow gr
 have fresh:∀a∈as,q2.s.heap.get? a=none:=λa ha=>get_none (lX (hG.above a ha))
 have nd:as.Nodup:=hG.rise.imp λh e=>absurd (e▸h) (gO _)
 refine v5 (Ep (vl:=cQ y.1 y.2) n3 (λa ha=>⟨.new aw.h (fresh a ha) n3 rfl rfl ((List.mem_iff_getElem?.1 ha).elim λj hj=>(hG.pairs j a hj).elim λU w=>w.elim λU w=>w.elim λU w=>⟨_,w.2.2⟩),fresh a ha⟩) nd
  (by rw[hl,hz,cQ,aD,gT,<-Ct.1,Nat.min_self]) (λj a hj=>by
   obtain⟨key,k,z,g1,g2,g3⟩:=hG.pairs j a hj
   obtain⟨b1,b2⟩:=gV.1 g1
   rw[aQ]at b1
   obtain⟨kk,hkk,rfl⟩:=aO.1 b1
   obtain⟨v,hv1,hv2⟩:=hv.of_get b2
   obtain⟨t,rfl⟩:=Value.isStrOf_shape g2
   refine⟨[_,z],[.str kk,v],g3,ay rfl,?_,.one (.str (of_decide_eq_true (aI.1 Ct.2.1 kk (bI hkk)))) (.one ((hv2.mono (aw.a.toLe)).mono n3.a.toLe) .nil)⟩
   rw[cQ,aQ,show(y.1.zip y.2)[j]?=some (kk,v)from gV.2 ⟨hkk,hv1⟩];rfl)) λtE m1 m2 m3 m4=>?_
 have oS:Own c (q2.hp h' tk) q2.s.heap.objs.size:=.new aw.h (dT q2) n3 rfl rfl ⟨_,hS⟩
 have nS:q2.s.heap.objs.size∉as:=λm=>gO _ (hG.above _ m)
 have n5:=m1.tell (b:=q2.s.heap.objs.size) ⟨oS.kp,(m4 _ nS).trans oS.eC,oS.tF,oS.yZ,oS.ex⟩ (dT q2) hS
 subst hq2
 refine hk _ _ (n.tr (aw.tr n5)) (.lst (us:=acc.toList) ⟨?_,k2,PH.cB _ _ _⟩ ?_)
 ·rw[A6,aD,hl,hz];exact aA Ct.2.2 (by decide)
 ·rw[A6];exact m3.mono (Le.ad ((m4 _ nS).trans oS.eC))
end
theorem EW:typeLookup (.type "list") (Str.ofString "keys")=pure none:=by rw[typeLookup_type,builtinLookup_eq_fast];kernel_rfl
theorem EU {prog:Program} {w:World} {A:Around} {E:aJ} {s:Shared} {a:Addr} {xs:dY} {k:Nat} {Q:mO->Shared->Prop}
  (hx:s.heap.get? a=some {cls:=.type "list",data:=.seq xs k}) (hA:A.handled=none) (h:∀h' tk,(∀b o,s.heap.get? b=some o->h'.get? b=some o)->Q none {s with heap:=h',toks:=tk}):
  wpAny (model prog w) A (getAttr? (.ref a) (Str.ofString "keys")) Q E s:=by
 obtain⟨hp,g,d,tk,os⟩:=s
 have hT:∀tk',(⟨hp,g,d,tk',os⟩:Shared).TypeIs (.ref a) "list":=λU=>⟨_,hx,rfl⟩
 have f1:=sub_AttributeError
 have f3:=F.slot_list_getattribute.lookup
 have f4:=F.slot_list_getattribute.bind (.ref a)
 have f5:=am_list_getattr_none
 unfold getAttr? getAttrBy? getAttrBy
 repeat(any_goals(first|assumption|exact hT _|((with_reducible show wpAny _ _ (call (Value.builtin "list.__getattribute__") _ _) _ _ _);refine gL F.slot_list_getattribute (hT _) am_entry_list_getattribute (F.args_list_getattribute_2 _ _) (meets_getattribute_miss_list a xs k _ (Str.ofString "keys") _ EW (by decide) (by decide)) ⟨hx,hA,λh' tk' e JM=>?_⟩)|wp_step))
 obtain⟨t',u',he⟩:=JM.there
 show wpAny _ _ (getattributeRaised _ _ _ _ _ _ _) _ _ _
 unfold getattributeRaised
 repeat(any_goals(first|assumption|wp_step))
 exact h _ _ JM.of.keeps
theorem pn:plainId "dict.update.loop"=true:=by decide+kernel
theorem xu:entryFor table "dict.update.loop"=some Builtin.«dict.update.loop»:=entryFor_of_fast (by kernel_rfl)
theorem stored_new {d5:List (Int×Value)} {k:Int} {v:Value} (h:k∉d5.map (·.1)):stored d5 k v=d5++[(k,v)]:=by
 unfold stored
 rw[af]
 intro e
 refine x3 (qK.1 e) λx m q=>?_
 exact h (aY.2 ⟨x,m,of_decide_eq_true q⟩)
theorem Ie {prog:Program} {w:World} {A:Around} {d I a:Addr} {us:bw} {ps:List (Int×Int)} {s₀:Shared} {R:Result->Shared->Prop} (hA:A.handled=none) (hlen:us.length=ps.length) (nd:(ps.map (·.1)).Nodup) (hz:ps.length<=1000) (UE:d≠I) (hda:d≠a) (hIa:I≠a)
  (items:∀(j:Nat) (u:Value),us[j]?=some u->∃T o k v t1 t2 n,u= .ref T/\T≠d/\T≠I/\s₀.heap.get? T=some o/\o.cls= .type "tuple"/\o.data= .seq #[.int k t1,.int v t2] n/\ps[j]?=some (k,v))
  (hl:s₀.heap.IsList a us.toArray)
  (hR:∀h' tk d5,(∀b o,b≠d->b≠I->s₀.heap.get? b=some o->h'.get? b=some o)->h'.DictOf (intKind prog w) d d5->jP d5 ps->R (.ok (.ret .none)) {s₀ with heap:=h',toks:=tk}):
  ∀(m i:Nat) (h:Heap) (tk:Nat) (d5:List (Int×Value)),ps.length-i=m->i<=ps.length->h.IsListIter I a i->(∀b o,b≠d->b≠I->s₀.heap.get? b=some o->h.get? b=some o)->h.DictOf (intKind prog w) d d5->jP d5 (ps.take i)->
   codeAny (model prog w) A (.builtin "dict.update.loop" ⟨[.ref d,.ref I,rawInt i,.none],[]⟩) R {s₀ with heap:=h,toks:=tk}:=by
 intro m
 induction m with
 |zero=>
  intro i h tk d5 hm hi hit keep hd hk
  have hin:i=ps.length:=kO hi (Nat.le_of_sub_eq_zero hm)
  subst hin
  have AX:h.IsList a us.toArray:=hl.at λo e=>keep a o hda.symm hIa.symm e
  refine codeAny_builtin xu ?_
  rw[qV pn _]
  show wpAny _ A.in1 (pyNext (.ref I)>>=_) _ _ _
  refine ai (wpAny_pyNext_list_end (A:=A.in1) hA hit AX (by rw[f9,<-hlen];exact oJ (aF _)) λh' hx=>?_)
  refine ai (av (av ?_))
  rw[List.take_length]at hk
  exact hR h' tk d5 (λb o b1 b2 e=>hx b o b2 (keep b o b1 b2 e)) (hd.at λo e=>hx d o UE e) hk
 |succ m ih=>
  intro i h tk d5 hm hi hit keep hd hk
  have jT:i<ps.length:=Nat.lt_of_sub_pos (hm▸Nat.succ_pos m)
  have AX:h.IsList a us.toArray:=hl.at λo e=>keep a o hda.symm hIa.symm e
  have hu:us[i]?=some (us[i]'(hlen▸jT)):=bZ _
  obtain⟨T,o,k,v,t1,t2,n,eu,T1,T2,hT,hc,OM,hp⟩:=items i _ hu
  refine codeAny_builtin xu ?_
  rw[qV pn _]
  show wpAny _ A.in1 (pyNext (.ref I)>>=_) _ _ _
  refine ai (wpAny_pyNext_list_item (A:=A.in1) hit AX (x:=us[i]'(hlen▸jT)) (by rw[f9];exact hu) λh' Pq sb=>?_)
  rw[eu]
  have UH:h'.get? T=some o:=(sb.2 T T2).trans (keep T o T1 T2 hT)
  refine ai (ef ?_)
  refine ai (wpAny_tryCatch ?_)
  unfold Builtin.Dict.pairItems
  refine ai (wpAny_typeOf ⟨o,UH,hc⟩ ?_)
  rw[ag (by decide)]
  refine ai (jz UH OM (av ?_))
  refine ef (wpAny_dictSet_pairs (knd:=intKind prog w) (k:=k) (by simp[intKind,Value.isInt]) (hd.at λo e=>(sb.2 d UE).trans e) (λh2 hd2 sb2=>?_) ?_)
  ·have hnk:k∉d5.map (·.1):=by
    rw[hk.keys]
    intro m
    refine x3 (aY.1 m) λx mx e=>?_
    obtain⟨j,hj⟩:=List.mem_iff_getElem?.1 mx
    have hji:j<i:=je (bO.1 hj).1 (List.length_take_le ..)
    rw[List.getElem?_take_of_lt hji]at hj
    refine absurd ((qN (i:=j) (j:=i) (by rw[aD];exact Nat.lt_trans hji jT) nd).1 ?_) (df hji)
    rw[aQ,aQ,hj,hp]
    exact ak some e
   rw[stored_new hnk]at hd2
   refine av ⟨plainId_quiet pn _,?_⟩
   have hk2:jP (d5++[(k,.int v t2)]) (ps.take (i+1)):=by
    rw[List.take_succ,hp];exact hk.snoc (k,v) t2
   exact ih (i+1) h2 (tk+1) _ (by rw[Nat.sub_succ,hm];rfl) jT (Pq.imp λo w=>⟨(sb2.2 I UE.symm).trans w.1,w.2⟩) (λb o b1 b2 e=>(sb2.2 b b1).trans ((sb.2 b b2).trans (keep b o b1 b2 e))) hd2 hk2
  ·have e1:=ak List.length hk.keys
   rw[aD,aD]at e1
   rw[e1,cU]
   exact aA (List.length_take_le' ..) (aA hz (by decide))
theorem tD {w:World} {prog:Program} {A:Around} {E:aJ} {s:Shared} {a:Addr} {us:bw} {n:Nat} {ps:List (Int×Int)} {Q:aJ} (hA:A.handled=none) (hlen:us.length=ps.length) (nd:(ps.map (·.1)).Nodup) (hz:ps.length<=1000)
  (items:∀(j:Nat) (u:Value),us[j]?=some u->∃T o k v t1 t2 n,u= .ref T/\s.heap.get? T=some o/\o.cls= .type "tuple"/\o.data= .seq #[.int k t1,.int v t2] n/\ps[j]?=some (k,v))
  (ho:s.heap.get? a=some (nR us n))
  (hQ:∀h' tk d5,(∀b o,s.heap.get? b=some o->h'.get? b=some o)->h'.DictOf (intKind prog w) s.heap.objs.size d5->jP d5 ps->Q (.ref s.heap.objs.size) {s with heap:=h',toks:=tk}):
  wpAny (model prog w) A (call (.type "dict") [.ref a]) Q E s:=by
 refine callType_codes (Q₁:=λobj b7=>obj= .ref s.heap.objs.size/\b7={s with heap:=s.heap.push {cls:=.type "dict",data:=.dict #[]}}) F.kt_called_dict (F.kt_typeCall_dict_1 _) F.entry_dict_init (kt_code_dict_new _ ⟨rfl,rfl⟩) ?_
 rintro obj b7 ⟨rfl,rfl⟩
 have FU:(s.heap.push {cls:=.type "dict",data:=.dict #[]}).DictOf (intKind prog w) s.heap.objs.size []:=Heap.DictOf.new s.heap
 have J':(s.heap.push {cls:=.type "dict",data:=.dict #[]}).get? a=some (nR us n):=aZ _ ho
 have had:a<s.heap.objs.size:=cE ho
 refine⟨FU.typeIs,F.args_dict_init_2 _ _,?_⟩
 unfold Builtin.«dict.__init__»
 refine ai ?_
 unfold Builtin.Dict.selfAndRest
 refine ai (wpAny_notOrdered_dict FU.typeIs ?_)
 show wpAny _ _ (pure (s.heap.objs.size,[Value.ref a])) _ _ _
 refine av ?_
 show wpAny _ _ (Builtin.Dict.updateFrom "dict.__init__" s.heap.objs.size (.ref a) [] .none) _ _ _
 unfold Builtin.Dict.updateFrom
 refine ai (wpAny_typeOf ⟨_,J',rfl⟩ ?_)
 rw[ag (by decide)]
 refine ai (m:=getAttr? (.ref a) (Str.ofString "keys")) (EU J' hA λh1 tk1 k1=>?_)
 rw[ag (by rfl)]
 refine ai (jw ?_)
 have pN:h1.IsList a us.toArray:=⟨_,k1 _ _ J',rfl,n,rfl⟩
 refine ai (mn pN ?_)
 have k2:∀b o,s.heap.get? b=some o->(h1.push {cls:=.type "list_iterator",data:=.fields #[.ref a,.int 0 0]}).get? b=some o:=λb o e=>aZ _ (k1 _ _ (aZ _ e))
 have hd1:h1.DictOf (intKind prog w) s.heap.objs.size []:=FU.at λo e=>k1 _ o e
 have UE:s.heap.objs.size<h1.objs.size:=hd1.elim λU h=>h.elim λU h=>h.elim λU h=>cE h.1
 have hI:∀{T:Addr} {o:Obj},s.heap.get? T=some o->T≠s.heap.objs.size/\T≠h1.objs.size:=λe=>⟨df (cE e),df (Nat.lt_trans (cE e) UE)⟩
 refine av ⟨plainId_quiet pn _,?_⟩
 refine Ie (A:=A.in1) (s₀:={s with heap:=h1.push {cls:=.type "list_iterator",data:=.fields #[.ref a,.int 0 0]},toks:=tk1}) (ps:=ps) (us:=us) (a:=a) hA hlen nd hz (df UE) (hI ho).1.symm (hI ho).2.symm (λj u hu=>?_) (pN.push _) (λh' tk d5 keep hd hk=>?_) ps.length 0 _ _ [] (Nat.sub_zero _) (bN _) ⟨_,bj _ rfl,rfl,rfl⟩ (λU U U U e=>e) (hd1.at λo e=>aZ _ e) ⟨[],rfl,rfl⟩
 ·obtain⟨T,o,k,v,t1,t2,n,e1,e2,e3,e4,e5⟩:=items j u hu
  exact⟨T,o,k,v,t1,t2,n,e1,(hI e2).1,(hI e2).2,k2 _ _ e2,e3,e4,e5⟩
 ·exact⟨rfl,hQ h' tk d5 (λb o e=>keep b o (hI e).1 (hI e).2 (k2 _ _ e)) hd hk⟩
section
variable{fs:FS} {c:Cx fs} {p q:Pt} {st st':St} {β:Type} {PP:Value->Prop} {Ps:bw->Prop}
def sO (v:V):Option (Int×Int):=(Fv v).bind λl=>match l with
 |[a,b]=>(mE a).bind λi=>(mE b).map λj=>(i,j)
 |_=>none
theorem zZ {v:V} {x:Int×Int} (h:sO v=some x):v= .tup [.int x.1,.int x.2]:=by
 refine x3 (aM.1 h) λl e h=>?_
 rw[u5 e]
 cases l with
 |nil=>cases h
 |cons a l=>cases l with
  |nil=>cases h
  |cons b l=>cases l with
   |cons=>cases h
   |nil=>
    refine x3 (aM.1 h) λi e1 h=>?_
    obtain⟨j,e2,rfl⟩:=aO.1 h
    rw[jN e1,jN e2]
def xT:aq->Option (List (Int×Int))
 |[]=>some []
 |v::l=>(sO v).bind λx=>(xT l).map (x::·)
theorem EH:∀{l:aq} {ps:List (Int×Int)},xT l=some ps->l=ps.map λx=>.tup [.int x.1,.int x.2]:=by
 intro l
 induction l with
 |nil=>intro ps h;cases h;rfl
 |cons v l ih=>
  intro ps h
  refine x3 (aM.1 h) λx e1 h=>?_
  obtain⟨r,e2,rfl⟩:=aO.1 h
  rw[zZ e1,ih e2];rfl
def r5 (_:aj) (vs:aq):Option V:=(lQ vs).bind λv=>(xI v).bind λl=>(xT l).bind λps=>if(ps.map (·.1)).Nodup/\ps.length<=1000 then some (.AP ps)else none
theorem LQ:mP (.type "dict") r5:=λU c p U U us v h gc e=>jS us e gc λu x hu e=>Np u e hu λa ws l ht hv e=>by
 refine x3 (aM.1 e) λps e1 e=>?_
 refine sL v e λhz K E hk=>ht.2.elim λn ho=>?_
 have el:=EH e1
 subst el
 refine tD (ps:=ps) c.r.handled (by rw[bS.length hv,aD]) hz.1 hz.2 (λj u hu=>?_) (h.inv.eC _ _ ho) λh' tk d5 gr hd rz=>?_
 ·refine x3 (hv.of_get hu) λw hw hr=>?_
  rw[aQ]at hw
  obtain⟨x,hx,rfl⟩:=aO.1 hw
  exact qh (P:=λu=>∃T o k v t1 t2 n,u= .ref T/\p.s.heap.get? T=some o/\o.cls= .type "tuple"/\o.data= .seq #[.int k t1,.int v t2] n/\ps[j]?=some (k,v)) u hr λT zs t vz=>gX (Ps:=λzs=>rM p.Φ T zs->_) zs vz (λz1 zs h1 vz=>qt (Ps:=λzs=>rM p.Φ T (z1::zs)->_) zs vz λz2 h2=>pO z1 h1 λt1=>pO z2 h2 λt2 t=>t.2.elim λo w=>w.2.2.elim λm hm=>⟨T,o,x.1,x.2,t1,t2,m,rfl,h.inv.eC _ _ w.1,w.2.1,hm,hx⟩) t
 ·refine x3 (Heap.dictOf_iff.1 hd) λo OJ JQ=>?_
  exact hk _ _ (h.made (t:=tk) gr (dT p) OJ) ⟨_,rfl,h.inv.uQ (dT p),o,PH.cB _ _ _,d5,JQ,rz⟩
noncomputable def asW:V->Option (List (Int×Int))
 | .AP l=>some l
 |_=>none
theorem Ul (a:V):(asW a).elim True λi=>a= .AP i:=by cases a<;>first|exact rfl|exact True.intro
theorem HR {a:V} {i:List (Int×Int)} (h:asW a=some i):a= .AP i:=(ak (λo=>Option.elim o True λi=>a=V.AP i) h).mp (Ul a)
theorem PR.dict {Φ:PH} {h:Heap} {a:Addr} {l:List (Int×Int)} (x:PR Φ a l) (hs:Sub Φ h):∃d5,h.DictOf (intKind G.prog G.w) a d5/\jP d5 l:=
 x.2.elim λo w=>w.2.elim λd5 k=>⟨d5,Heap.dictOf_iff.2 ⟨o,hs _ _ w.1,k.1⟩,k.2⟩
theorem Md {k:Int}:∀{d5:List (Int×Value)} {l:List (Int×Int)},jP d5 l->(∃w t,l.lookup k=some w/\valueAt d5 k=some (.int w t))\/(l.lookup k=none/\valueAt d5 k=none):=by
 intro d5 l
 induction l generalizing d5 with
 |nil=>rintro⟨ts,e,rfl⟩;exact .inr ⟨rfl,rfl⟩
 |cons x l ih=>
  rintro⟨ts,e,rfl⟩
  cases ts with
  |nil=>cases e
  |cons t ts=>
   have ih:=ih ⟨ts,iH e,rfl⟩
   by_cases q:k=x.1
   ·refine .inl ⟨x.2,t,?_,?_⟩
    ·rw[bG,beq_iff_eq.2 q]
    ·unfold valueAt
     rw[kR,bo]
     exact ak (Option.map (·.2)) (List.find?_cons_of_pos (p:=λkv:Int×Value=>decide (kv.1=k)) (a:=(x.1,Value.int x.2 t)) (show decide (x.1=k)=true from decide_eq_true q.symm))
   ·rw[bG,bu.2 q]
    have e2:valueAt (((x::l).zip (t::ts)).map λx=>(x.1.1,Value.int x.1.2 x.2)) k=valueAt ((l.zip ts).map λx=>(x.1.1,Value.int x.1.2 x.2)) k:=by
     unfold valueAt
     rw[kR,bo,List.find?_cons_of_neg (λh=>q (of_decide_eq_true h).symm)]
    rw[e2]
    exact ih
def isW (_:aj) (v:V):Bool:=(asW v).isSome
def xK (H:aj) (v:V):Bool:=isD H v||isW H v
theorem aaE:zl "dict" xK:=λU U p U U u h hu k=>(mq.1 k).elim (tyD u h hu) λk=>(m8.1 k).elim λl e=>by
 have hu:VR p u (.AP l):=HR e▸hu
 obtain⟨a,rfl,w⟩:=hu
 refine x3 (w.dict h.inv.eC) λd5 hd U=>?_
 exact⟨hd.typeIs,λb eb=>by cases eb;exact hd.elim λo z=>z.elim λes z=>z.elim λep z=>⟨o,z.1,z.2.1.2.1⟩⟩
def CF (H:aj) (o:V) (vs:aq):Option (V×aj):=(rK vs).bind λx=>(mE x.1).bind λk=>(asW o).map λl=>((l.lookup k).elim x.2 .int,H)
theorem RJ:fA "dict.get" CF:=λU c p st U U u us w h hu gc e=>GK us e gc λuk ud x hk hd e=>Fw uk e hk λk t e=>by
 obtain⟨l,e1,rfl⟩:=aO.1 e
 have hu:VR p u (.AP l):=HR e1▸hu
 obtain⟨a,rfl,hw⟩:=hu
 refine x3 (hw.dict h.inv.eC) λd5 OM hi=>?_
 intro K E hK
 have hm:=OM.mapOf
 refine lY F.slot_dict_get hm.typeIs F.entry_dict_get (F.args_dict_get_3 _ _ _) (meets_dict_get_default (intKind G.prog G.w) a (k:=k) (by simp[intKind,Value.isInt]) (bu.2 hw.1) ud) ⟨_,hm,?_⟩
 have n:=h.tok (p.s.toks+1)
 rcases Md (k:=k) hi with⟨z,t2,q1,q2⟩|⟨q1,q2⟩
 ·rw[q1]at hK;rw[q2];exact hK _ _ n ⟨t2,rfl⟩
 ·rw[q1]at hK;rw[q2];exact hK _ _ n (n.vr hd)
def nT (H:aj) (o:V) (vs:aq):Option (V×aj):=(CG H o vs).or (CF H o vs)
theorem RH:fA "dict.get" nT:=λU U U U U U u us w h hu gc e=>(OE e).elim (RL u us w h hu gc) (RJ u us w h hu gc)
end
section
variable{fs:FS} {c:Cx fs} {p q r:Pt} {st st' st₁:St}
def mN:Str:=S [109]
def sQ:Str:=S [107,101,121,115]
def eQ:Scope:=dB.2.2.1
theorem z_:eQ.kind= .function:=by kernel_rfl
theorem Hg:eQ.isCoroutine=false:=by kernel_rfl
theorem L9:eQ.isGenerator=false:=by kernel_rfl
theorem iY:eQ.names=[(mN,.cell),(sQ,.free),(S [115,117,109],.globalImplicit),(S [101,110,117,109,101,114,97,116,101],.globalImplicit)]:=by kernel_rfl
theorem I1 (env:Env):defaultsOf dB.1 env=([],[]):=by kernel_rfl
theorem I2 (qual:Str) (cl:List (Str×Addr)) (pm cv UM um:Value):bindArgs (kla_fn "<lambda>" qual dB.1 dB.2.1 eQ cl pm cv UM) ⟨[um],[]⟩=pure [(mN,um)]:=by kernel_rfl
def pS (m:V):Nat->aq->Option Int
 |_,[]=>some 0
 |k,v::r=>if k<=2 then(sO v).bind λp=>(gC [] m (.int p.1)).bind λx=>(mE x).bind λx=>(pS m (k+1) r).map λy=>x*(if p.2>0 then 1 else-1)*100^(2-k)+y else none
theorem Dd {m v:V} {k:Nat} {r:aq}:pS m k (v::r)=if k<=2 then(sO v).bind λp=>(gC [] m (.int p.1)).bind λx=>(mE x).bind λx=>(pS m (k+1) r).map λy=>x*(if p.2>0 then 1 else-1)*100^(2-k)+y else none:=rfl
def fW (kv m:V):Option Int:=(xI kv).bind λl=>pS m 0 l
def zm (d:D):Prop:=∀H kv m r,fW kv m=some r->∃a6,d ⟨H,[some m,some kv,none,none]⟩=some (.int r,⟨H,a6⟩)
noncomputable abbrev zk:Obj:={cls:=.type "frame",data:=.dict #[]}
theorem RZ {M:Model} {A:Around} {E:aJ} {s:Shared} {scope:Scope} {g:Addr} {cl:List (Str×Addr)} {x:Str} {u:Value} {qual:Str} {func:Option Addr} {code:Value} {bi:Addr} {Q:Env->Shared->Prop} (hk:scope.kind= .function) (hx:scope.names.lookup x=some .cell) {b:Addr}
  (hb:(cellsFrom (s.heap.objs.size+1) scope.names cl).lookup x=some b) (hc:(pushCells (s.heap.push zk) scope.names).IsCell b none)
  (hQ:∀h',h'.IsCell b (some u)->Heap.SameBut b (pushCells (s.heap.push zk) scope.names) h'->Q (newEnv scope s.heap.objs.size g (cellsFrom (s.heap.objs.size+1) scope.names cl) qual func code none bi) {s with heap:=h'}):
  wpAny M A (newFunctionEnv scope g cl [(x,u)] qual func code none bi) Q E s:=by
 simp only[newFunctionEnv,Option.isSome_none,fE,d8]
 refine ai (wpAny_alloc ?_)
 refine ai (wpAny_layCells _ (λname kind cells=>by cases hkc:kind==NameKind.cell<;>simp[hkc]) _ _ _ _ ?_)
 rw[show({s with heap:=s.heap.push zk}:Shared).heap.objs.size=s.heap.objs.size+1 from fD ..]
 rw[i7]
 refine ai (ai (ai (wpAny_storeName_cell hk hx hb hc λh' h1 h2=>?_)))
 exact av (by
  show wpAny M A (forIn [] PUnit.unit _) _ E _
  rw[List.forIn_nil]
  exact av (av (hQ h' h1 h2)))
abbrev qp (code:Value) (l:Nat):FS:=xM eQ code l
theorem Rm.in2 {l m:Nat} {A:Around} (h:l+2<=m) (r:Rm m A):Rm (l+1) A.in1.in1:=⟨r.handled,aA (kU (mv _ (Nat.le_succ_of_le h)) _) r.depth,
 aA (aA (show A.units+2+100*(l+2)<=A.units+(100*(l+2)+100)by rw[iq];exact kU (aA (iG (gq ..)) (kU (by decide) _)) _) (kU (mv 100 (iz h)) _):A.units+2+100*(l+1+1)<=A.units+100*(m+1)) r.units⟩
def l8:=@Prod.mk.injEq
theorem Aa {c:Cx fs} {p:Pt} {st:St} (h:SR c st p) {u um:Value} (hl:nV p.Φ c.env.cells u) {kk:Nat} (hk:fs.names[kk]?=some (sQ,.cell)) {kv m:V} (hv:st.loc[kk]?=some (some kv)) (hm:VR p um m) {r:Int} (hr:fW kv m=some r) {l:Nat} {A:Around} (rA:Rm (l+1) A) {d:D} (hB:∀code,bX (qp code l) dB.2.1 d) (hD:zm d)
  {k:aJ} {E:aJ} (K:∀t q,Nx c p st q->k (.int r t) q.s):wpAny cW A (call u [um]) k E p.s:=by
 obtain⟨w,y⟩:=hl
 rw[y.u]
 refine x5 (h.env.cv kk _ _ kv hk (.inl rfl) hv) λbk uk ek hik hvk=>?_
 refine wpAny_call (kla_callFunE rA.dep (h.inv.eC _ _ y.o) y.d Hg L9 rfl ⟨w.cd,w.oc,w.vs,w.t,rfl,h.inv.eC _ _ y.c,y.f,y.q⟩ ?_)
 rw[show bindArgs (kla_fn "<lambda>" w.q dB.1 dB.2.1 dB.2.2.1 (ue c.env.cells dB.2.2.1.names []) w.pm (.ref w.cd) w.ct) ⟨[um],[]⟩=pure [(mN,um)]from I2 w.q _ w.pm _ w.ct um]
 generalize w.a=a,w.q=qual,w.cd=cd
 have cm:(mN,NameKind.cell)∈eQ.names:=by rw[iY];exact cV
 have nd:(eQ.names.map (·.1)).Nodup:=by rw[iY];decide
 have cok:CellsOk (pushCells (p.s.heap.push zk) eQ.names) (p.s.heap.objs.size+1) (cellsFrom (p.s.heap.objs.size+1) eQ.names []):=by
  have :=cellsFrom_ok eQ.names (p.s.heap.push zk) (p.s.heap.objs.size+1) [] ⟨λU U hm=>(nomatch hm),List.Pairwise.nil⟩ (by rw[fD];exact aF _)
  rw[fD]at this
  exact this
 have new:∀{x:Str} {b:Addr},(x,b)∈cellsFrom (p.s.heap.objs.size+1) eQ.names []->p.s.heap.get? b=none/\b≠p.s.heap.objs.size:=λ{x b} m=>
  have k:=(cok.empty _ _ m).2
  ⟨get_none (Nat.le_of_succ_le k),λe=>absurd (e▸k) (Nat.not_succ_le_self _)⟩
 have uniq:∀{x:Str} {k k':NameKind},(x,k)∈eQ.names->(x,k')∈eQ.names->k=k':=λ{x k k'} h1 h2=>by
  obtain⟨i,hi⟩:=oH h1
  obtain⟨j,hj⟩:=oH h2
  cases pv nd hi hj
  exact(Prod.mk.inj (aP (hi.symm.trans hj))).2
 obtain⟨b,eb⟩:=sD (n:=p.s.heap.objs.size) (cells:=c.env.cells) cm
 have mb:(mN,b)∈cellsFrom (p.s.heap.objs.size+1) eQ.names []:=(eT eb).elim (λk=>k.1) λk=>nomatch uniq cm k.2
 have N1:(sQ,NameKind.free)∈eQ.names:=by rw[iY];exact .tail _ (.head _)
 have ek':(pP p.s.heap.objs.size eQ c.env.cells).lookup sQ=some bk:=by
  obtain⟨b',Vb⟩:=ji (show(sQ,bk)∈pP p.s.heap.objs.size eQ c.env.cells by unfold pP;rw[eP];exact iD _ (DN N1 ek))
  rcases eT Vb with k|k
  ·exact nomatch uniq k.2 N1
  ·exact aP (k.1.symm.trans ek)▸Vb
 refine av (RZ z_ (nq nd cm) eb (cok.empty _ _ mb).1 λh' hc1 JO=>⟨?_,?_⟩)
 all_goals have gr:∀a o,p.s.heap.get? a=some o->(pushCells (p.s.heap.push zk) eQ.names).get? a=some o:=λa o e=>mc _ _ a o (aZ _ e)
 all_goals have kp':∀a o,p.s.heap.get? a=some o->h'.get? a=some o:=λa o e=>(JO.2 a λz=>by rw[z,(new mb).1]at e;cases e).trans (gr a o e)
 ·exact(c.g.lim _ h.inv.kp).keeps kp'
 let c':Cx (qp (.ref cd) l):={
  env:=newEnv eQ p.s.heap.objs.size mainGlobals (pP p.s.heap.objs.size eQ c.env.cells) (qual++".<locals>.") (some a) (.ref cd) none builtinsNs
  A:=A.deeper (newEnv eQ p.s.heap.objs.size mainGlobals (pP p.s.heap.objs.size eQ c.env.cells) (qual++".<locals>.") (some a) (.ref cd) none builtinsNs)
  Kp:=c.Kp.plus p.s.heap (Cv c.env),g:=h.CS,names:=rfl,kind:=z_,glob:=rfl,bi:=rfl,code:=rfl,co:=Hg
  r:=⟨rA.handled,aA (by show A.depth+1+10*(l+1)<=A.depth+10*(l+1+1);exact Wx) rA.depth,aA (by show A.units+3+100*(l+1)<=A.units+100*(l+1+1);exact Ww) rA.units⟩
  kl:=(h.nest.free (dT p)).1
  ne:=λx a e=>(eT e).elim (λk=>(new k.1).2) λk=>nX (h.env.there (.inr ⟨x,k.1⟩))
  apart:=λx y a e1 e2=>by
   rcases eT e1 with m1|m1<;>rcases eT e2 with m2|m2
   ·exact name_of_addr cok.apart m1.1 m2.1
   ·exact(h.env.there (.inr ⟨y,m2.1⟩)).not (new m1.1).1
   ·exact(h.env.there (.inr ⟨x,m1.1⟩)).not (new m2.1).1
   ·exact c.apart x y a m1.1 m2.1
  wr:=λx hx a e=>(eT e).elim (λk=>(h.nest.free (new k.1).1).1) λk=>by
   obtain⟨y,hy,rfl⟩:=aY.1 hx
   have hy:=oj.1 hy
   have e2:y.2= .cell:=by simpa using hy.2
   exact nomatch uniq (show(y.1,NameKind.cell)∈eQ.names from e2▸hy.1) k.2
  Eb:=λi x kd e U8=>by
   have e:=bI e
   rcases U8 with rfl|rfl
   ·exact sD e
   ·rw[show(qp (.ref cd) l).names=_ from iY]at e
    simp only[aC,l8,reduceCtorEq,and_false,and_true,bh,or_false,false_or]at e
    exact⟨bk,e▸ek'⟩}
 have sr:SR c' ⟨st.H,[some m,some kv,none,none]⟩ (p.hp h' p.s.toks):=by
  have fb:=h.nest.free (new mb).1
  have PU:Inv (c.Kp.plus p.s.heap (Cv c.env)) st.H (p.hp (pushCells (p.s.heap.push zk) eQ.names) p.s.toks):=h.nest.grow gr
  have le:Le p (p.hp h' p.s.toks):=⟨λU U e=>e,bY _⟩
  have ON:∀{a v},a≠b->(pushCells (p.s.heap.push zk) eQ.names).IsCell a v->h'.IsCell a v:=λe w=>mC w λo=>((JO.2 _ e).trans ·)
  have nb:bk≠b:=λe=>(h.env.there (.inr ⟨_,ek⟩)).not (e▸(new mb).1)
  refine⟨PU.frame JO fb.1 fb.2,λa f=>?_,λx a e=>?_,⟨_,((Heap.Ns.new p.s.heap (.type "frame")).keeps (mc _ _)).sameBut JO (new mb).2.symm,λi x w e1 e2=>?_⟩,λi x kd w e1 e2 e3=>?_⟩
  ·rcases f with rfl|⟨x,e⟩
   ·exact(h.nest.free (dT p)).2
   ·exact(eT e).elim (λk=>(h.nest.free (new k.1).1).2) λk=>h.env.fr a (.inr ⟨x,k.1⟩)
  ·by_cases z:a=b
   ·subst z;exact⟨_,hc1⟩
   ·exact(eT e).elim (λk=>⟨_,ON z (cok.empty _ _ k.1).1⟩) λk=>(h.env.cells x a k.1).imp λU w=>w.keeps kp'
  ·have e1:=bI e1
   rw[show(qp (.ref cd) l).names=_ from iY]at e1
   simp at e1
  ·rw[show(qp (.ref cd) l).names=_ from iY]at e1
   match i with
   |0=>cases e1;cases e3;exact⟨b,um,eb,hc1,hm.mono le⟩
   |1=>cases e1;cases e3;exact⟨bk,uk,ek',ON nb (hik.keeps gr),hvk.mono le⟩
   |2=>cases e1;cases e3
   |3=>cases e1;cases e3
   |i+4=>cases e1
 obtain⟨a6,JQ⟩:=hD st.H kv m r hr
 refine kla_codeExpr (hB (.ref cd) (c:=c') sr JQ λv q n hv=>?_)
 exact pO (P:=λv=>k v q.s) v hv λt=>K t q (h.xQ ((lM.grow (p:=p) (t:=p.s.toks) kp').trans n.a) n.h.inv)
end
section
variable{fs:FS} {c:Cx fs} {p q r:Pt} {st st' st₁:St}
noncomputable def PD:DS:=λst=>some (.brk,st)
noncomputable def Dy:Option KJ->Bool
 |some (some (.gb true))=>true
 |_=>false
theorem B_ {x:Option KJ} (h:Dy x=true):x=some (some (.gb true)):=by
 rcases x with _|_|o
 ·cases h
 ·cases h
 ·cases o with
  |gb b=>cases b<;>first|rfl|cases h
  |_=>cases h
def Ec (k:Nat):DS:=λst=>if Dy st.H[1]?=true then some (.next,⟨st.H.set 1 (some (.gb false)),st.loc.set k (some .lam)⟩)else none
theorem aa4 {k:Nat} {VL np pos:Pos} (hB:KO) (Gq:fs.code= .ref G.tl.1) (hlp:VL=dB.2.2.2) (n:isName fs k lF .local) (nd:(fs.names.map (·.1)).Nodup) (hf:∀x∈eQ.names,x.2= .free->fs.names.lookup x.1=some .cell):
  kh fs (.Assign [.Name lF np] (.Lambda dB.1 dB.2.1 dB.2.2.1 VL) pos) (Ec k):=by
 intro c p st h
 subst hlp
 refine .iff λhz=>.yes λK E hk=>?_
 have hz:=B_ hz
 refine wpAny_Assign_stores ?_ ((c.ph _ _ _).trans rfl) ((c.tJ _ _).trans rfl)
 obtain⟨a,ha,kp,phn,ea,ps,⟨tr,hnf⟩,FW⟩:=h.inv.live 1 _ hz
 cases ea
 obtain⟨bm,o,b1,b2,b3,b4,b5,b6⟩:=hB.ex
 obtain⟨mg,OK,AR,_⟩:=c.g.OT p.s.heap h.inv.kp
 have Va:=h.inv.kp _ _ (c.g.K _ _ b3)
 have hcl:closureFor dB.2.2.1 c.env=pure (ue c.env.cells dB.2.2.1.names []):=fR λx hx hxf=>by
  have :=hf x hx hxf
  obtain⟨i,hi,e⟩:=List.getElem_of_mem (mem_of_lookup this)
  exact c.Eb i x.1 .cell (by rw[<-e];exact bZ hi) (.inl rfl)
 refine kla_eval (I1 _) (kla_makeFunction (mg:=mg) hcl c.glob OK (c.code.trans Gq) (c.g.cdl _ h.inv.kp) FW tr (hnf rfl) (λq=>?_) ⟨bm,o,AR _ _ b1,b2,λq=>?_,λq=>?_,Va,b4,b5,b6⟩ λc' UM h' tk hx hge jT abJ htb=>?_)
 ·refine x6 (OK) λo' es ep e hd U=>?_
  rw[q,FW]at e;cases e;cases hd
 ·refine x6 (OK) λo' es ep e hd U=>?_
  rw[q,e]at Va;cases Va;rw[hd]at b6;cases b6
 ·rw[q,FW]at Va;cases Va;cases b4
 obtain⟨c2,oc,vs,t,e2,hoc,qg,hq⟩:=abJ
 cases e2
 have hn0:(1:Nat)≠0:=by decide
 have n₁:=h.Ge (t:=tk) (o':=.gb false) hz ha hx ⟨rfl,_,⟨by
   rw[show(ps++#[rawInt dB.2.2.2.line,rawInt dB.2.2.2.col,Value.ref c']).toList=ps.toList++[rawInt dB.2.2.2.line,rawInt dB.2.2.2.col,.ref c']by simp]
   exact TriplesOk_snoc _ _ _ _ tr,nofun⟩,htb⟩ ((jh hn0).trans h.inv.tb)
 have cn:p.s.heap.get? c'=none:=get_none hge
 have cp:(p.hp h' tk).Φ c'=none:=none_of h.inv.eC cn
 have aw:Nx c p ⟨st.H.set 1 (some (.gb false)),st.loc⟩ ((p.hp h' tk).ad c' oc):=
  ⟨n₁.a.made cn cp,n₁.h.inv.made cp hoc λm ob U w=>(h.inv.not cn) (bI w),n₁.h.env.to (Le.ad cp) (λa f=>⟨(PH.jO λ(e:a=c')=>(h.env.there f).not (e▸cn)).trans (n₁.h.env.fr a f).1,(n₁.h.env.fr a f).2⟩) λU U U e=>e⟩
 have bE:=aw.h.made (h':=h'.push (kla_obj "<lambda>" (c.env.qual++"<lambda>") dB.1 dB.2.1 dB.2.2.1 (ue c.env.cells dB.2.2.1.names []) ((mg "__name__").getD .none) c' UM)) (t:=tk) (pushKeep _ _) (dT (p.hp h' tk)) (bj _ rfl)
 have fJ:=aw.tr bE
 have la:nV ((((p.hp h' tk).ad c' oc).hp (h'.push (kla_obj "<lambda>" (c.env.qual++"<lambda>") dB.1 dB.2.1 dB.2.2.1 (ue c.env.cells dB.2.2.1.names []) ((mg "__name__").getD .none) c' UM)) tk).ad h'.objs.size (kla_obj "<lambda>" (c.env.qual++"<lambda>") dB.1 dB.2.1 dB.2.2.1 (ue c.env.cells dB.2.2.1.names []) ((mg "__name__").getD .none) c' UM)).Φ c.env.cells (.ref h'.objs.size):=
  ⟨⟨_,_,_,_,c',UM,oc,vs,t⟩,rfl,PH.cB _ _ _,rfl,(PH.jO (df jT)).trans (PH.cB _ _ _),qg,hq⟩
 rw[show(assignEach [.Name lF np] c.env).map (·.2)=[assign (.Name lF np) c.env]from rfl]
 exact wpAny_assign_Name (zY fJ.h (.inr ⟨rfl,rfl,la⟩) n nd λU q kf U=>hk _ _ (fJ.tr kf) rfl)
end
section
variable{fs:FS} {c:Cx fs} {p q r:Pt} {st st' st₁:St}
noncomputable def Hm:Option (Option V)->Bool
 |some (some .lam)=>true
 |_=>false
theorem EZ {x:Option (Option V)} (h:Hm x=true):x=some (some .lam):=by
 rcases x with _|_|o
 ·cases h
 ·cases h
 ·cases o<;>first|rfl|cases h
def intsOf (a:V):Option (List Int):=(Fv a).bind lg
theorem xp {a:V} {l:List Int} (h:intsOf a=some l):a= .tup (l.map .int):=by
 refine x3 (aM.1 h) λx e h=>?_
 rw[u5 e,vk h]
def yf (k kk:Nat) (d:D):D:=λst=>(d st).bind λx=>(xI x.1).bind λl=>(rK l).bind λab=>if Hm x.2.loc[k]?=true then(x.2.loc[kk]?).join.bind λkv=>(fW kv ab.1).bind λi=>(fW kv ab.2).bind λj=>(intsOf ab.1).bind λla=>(intsOf ab.2).bind λlb=>
 if i=j->la=lb then some (.lst (if j<i then[ab.2,ab.1]else[ab.1,ab.2]),x.2)else none else none
theorem Lz {b b':Addr} (h1:Own c p b) (h2:Own c p b'):∀x,x=b\/x=b'->Own c p x:=λx hx=>hx.elim (λe=>e▸h1) λe=>e▸h2
def n_:=@listUpdate_at
def oq:=@get?_update_seq
theorem Il {u:Value} (h:SR c st p) (hl:nV p.Φ c.env.cells u) {kk:Nat} (hk:fs.names[kk]?=some (sQ,.cell)) {kv a b:V} (hv:st.loc[kk]?=some (some kv)) {ua ub:Value} (ha:VR p ua a) (hb:VR p ub b) {i j:Int} (hi:fW kv a=some i) (hj:fW kv b=some j) {l:Nat} (hlv:l+2<=fs.lv) {d:D} (hB:∀code,bX (qp code l) dB.2.1 d) (hD:zm d)
  {al:Addr} (hal:p.s.heap.IsList al [ua,ub].toArray) {K:aJ} {E:aJ}
  (fin:∀L out n q,(i<=j/\out=[ua,ub]\/j<=i/\out=[ub,ua])->Nx c p st q->Own c q L->p.s.heap.get? L=none->q.s.heap.get? L=some (nR out n)->K (.ref L) q.s):
  wpAny cW c.A (call (.builtin "sorted") [.ref al] [(Str.ofString "key",u)]) K E p.s:=by
 obtain⟨au,rfl⟩:=hl.ref
 refine call_function_entry_kw kind_sorted plain_sorted entry_sorted (ksk_s1 _ _) ?_
 unfold Builtin.«sorted»
 refine ai (m:=checkCount "sorted" 1 1 _) (av ?_)
 refine ai (collect_list hal ?_ (ay rfl))
 refine ai (wpAny_newList ?_ (ay rfl))
 generalize hh0:((p.s.heap.push (seqObj "list" #[] 0)).update p.s.heap.objs.size (Obj.mapSeq (·++[ua,ub].toArray)))=h0
 have sz0:h0.objs.size=p.s.heap.objs.size+1:=by rw[<-hh0,Heap.size_update,size_push']
 have gr0:∀b o,p.s.heap.get? b=some o->h0.get? b=some o:=λb o e=>by
  have jT:=cE e
  rw[<-hh0,Heap.get?_update_ne _ _ _ _ (df jT),Heap.get?_push_ne _ _ _ (df jT)]
  exact e
 show wpAny _ _ _ _ _ {p.s with heap:=h0.push (seqObj "list" [ua,ub].toArray 0)}
 have U4:(h0.push (seqObj "list" [ua,ub].toArray 0)).get? h0.objs.size=some (seqObj "list" [ua,ub].toArray 0):=bj _ rfl
 refine ai (ef (wpAny_call_entry_kw slot_list_sort ⟨_,U4,rfl⟩ entry_list_sort ?_ (ksk_l1 _ _)))
 rw[ksk_t1]
 unfold ksk_tree
 generalize hL:h0.objs.size=L at U4 |-
 refine ai (listItems_at U4 rfl ?_)
 refine ai (n_ U4 rfl ?_ (ay rfl) (bN _))
 obtain⟨e1,J'⟩:∃e1,((h0.push (seqObj "list" [ua,ub].toArray 0)).update L (Obj.mapSeq λU=>(#[]:dY))).get? L=some (seqObj "list" #[] e1):=⟨_,oq U4 λU=>#[]⟩
 refine ai (seqEpoch_at J' rfl ?_)
 refine ai (wpAny_newTuple ?_ (ay rfl))
 refine ai (wpAny_newList ?_ (bN _))
 refine ef ?_
 generalize M':((h0.push (seqObj "list" [ua,ub].toArray 0)).update L (Obj.mapSeq λU=>(#[]:dY)))=h1 at J' |-
 generalize hkS:(h1.push (seqObj "tuple" [ua,ub].toArray 0)).objs.size=kS
 have sz1:h1.objs.size=L+1:=by rw[<-M',Heap.size_update,size_push',hL]
 have ekS:kS=L+2:=by rw[<-hkS,size_push',sz1]
 have gr1:∀b o,p.s.heap.get? b=some o->h1.get? b=some o:=λb o e=>by
  have jT:=cE (gr0 b o e)
  rw[hL]at jT
  rw[<-M',Heap.get?_update_ne _ _ _ _ (df jT),Heap.get?_push_ne _ _ _ (df (hL▸jT))]
  exact gr0 b o e
 generalize tG:(h1.push (seqObj "tuple" [ua,ub].toArray 0)).push (seqObj "list" #[] 0)=h2
 have gr2:∀b o,h1.get? b=some o->h2.get? b=some o:=λb o e=>tG▸aZ _ (aZ _ e)
 have oL2:h2.get? L=some (seqObj "list" #[] e1):=gr2 _ _ J'
 have oK2:h2.get? kS=some (seqObj "list" #[] 0):=by rw[<-tG,<-hkS];exact bj _ rfl
 show wpAny _ _ _ _ _ {p.s with heap:=h2}
 have gr:∀b o,p.s.heap.get? b=some o->h2.get? b=some o:=λb o e=>gr2 b o (gr1 b o e)
 have nL:p.s.heap.get? L=none:=get_none (by rw[<-hL,sz0];exact gM _)
 have nK:p.s.heap.get? kS=none:=get_none (by rw[ekS,<-hL,sz0];exact f7 _ 3)
 have neK:kS≠L:=by rw[ekS];exact Nat.ne_of_gt (vC (by decide))
 have n2:Nx c p st (p.hp h2 p.s.toks):=h.grow gr
 have A1:=Lz (c:=c) (p:=p.hp h2 p.s.toks) (.new h nK n2 rfl rfl ⟨_,oK2⟩) (.new h nL n2 rfl rfl ⟨_,oL2⟩)
 have R:=c.r.in2 hlv
 unfold ksk_rest
 refine ai (jw ?_)
 rw[List.forIn_toArray,i7]
 refine ai (ai (ai (wpAny_attempt (Aa (n2.h.plus A1) hl hk hv (n2.vr ha) hi R hB hD λt1 q3 n3=>?_))))
 have m3:=n3.minus n2.h A1
 have D7:=λx hx=>(A1 x hx).tI n3.a
 have oK3:=n2.h.held A1 n3.h (.inl rfl) oK2
 have oL3:=n2.h.held A1 n3.h (.inr rfl) oL2
 refine ai (n_ oK3 rfl ?_ (bN _) (ay rfl))
 obtain⟨e2,oK4⟩:∃e2,(q3.s.heap.update kS (Obj.mapSeq λx=>x.push (.int i t1))).get? kS=some (seqObj "list" #[.int i t1] e2):=⟨_,oq oK3 λx=>x.push (.int i t1)⟩
 have sb3:=gU q3.s.heap kS (Obj.mapSeq λx=>x.push (.int i t1))
 have oL4:=(sb3.2 L neK.symm).trans oL3
 generalize Kb:q3.s.heap.update kS (Obj.mapSeq λx=>x.push (.int i t1))=h4 at oK4 sb3 oL4 |-
 have x4:=m3.h.own (t:=q3.s.toks) (h':=h4) (X:=(·=kS)) (λb hb=>D7 b (.inl hb)) (λb o hb e=>(sb3.2 b hb).trans e) λb hb=>hb▸⟨_,oK4⟩
 have n4:=m3.tr x4
 have FP:=λx hx=>(D7 x hx).tI x4.a
 refine av ?_
 dsimp only
 rw[i7]
 have Cs:nV (q3.hp h4 q3.s.toks).Φ c.env.cells (.ref au):=hl.mono (n2.tr n4).a.le
 refine ai (ai (wpAny_attempt (Aa (n4.h.plus FP) Cs hk hv ((n2.tr n4).vr hb) hj R hB hD λt2 q5 n5=>?_)))
 have m5:=n5.minus n4.h FP
 have VJ:=λx hx=>(FP x hx).tI n5.a
 have oK5:=n4.h.held FP n5.h (.inl rfl) oK4
 have oL5:=n4.h.held FP n5.h (.inr rfl) oL4
 refine ai (n_ oK5 rfl ?_ (ay rfl) (ay rfl))
 obtain⟨e3,U0⟩:∃e3,(q5.s.heap.update kS (Obj.mapSeq λx=>x.push (.int j t2))).get? kS=some (seqObj "list" #[.int i t1,.int j t2] e3):=⟨_,oq oK5 λx=>x.push (.int j t2)⟩
 have sb5:=gU q5.s.heap kS (Obj.mapSeq λx=>x.push (.int j t2))
 have oL6:=(sb5.2 L neK.symm).trans oL5
 generalize hh6:q5.s.heap.update kS (Obj.mapSeq λx=>x.push (.int j t2))=h6 at U0 sb5 oL6 |-
 have x6:=m5.h.own (t:=q5.s.toks) (h':=h6) (X:=(·=kS)) (λb hb=>VJ b (.inl hb)) (λb o hb e=>(sb5.2 b hb).trans e) λb hb=>hb▸⟨_,U0⟩
 have n6:=(n2.tr n4).tr (m5.tr x6)
 have VI:=λx hx=>(VJ x hx).tI x6.a
 refine av ?_
 dsimp only
 rw[List.forIn_nil]
 refine av (ai (listItems_at U0 rfl ?_))
 
 have hI:IntsAre (#[.int i t1,.int j t2]:dY).toList [i,j]:=.cons i t1 (.cons j t2 .nil)
 unfold ksk_end
 dsimp only
 rw[af (by decide)]
 simp only[fE,d8]
 rw[ksk_kind hI (aF _)]
 refine ai (av (ai (bV (wpS_sortRuns (a₀:=(#[.int i t1,.int j t2]:dY).zip #[ua,ub]) (st:=SortSt.mk' oneType' ((#[.int i t1,.int j t2]:dY).zip #[ua,ub]) #[] 7 none)
   (Q:=λU st'=>(arrOf st').Perm ((#[.int i t1,.int j t2]:dY).zip #[ua,ub])/\failedOf st'=none/\SortedTo (arrOf st') ((#[.int i t1,.int j t2]:dY).zip #[ua,ub]).size)
   (ksk_intKeys (vs:=[ua,ub]) hI) ⟨Array.Perm.refl _,rfl,rfl,rfl⟩ (by simp) (by simp) λst' a1 a2 a3=>⟨a1,a2,a3⟩) ?_ λU U e=>e)))
 rintro⟨⟨⟩,st'⟩ s' ⟨rfl,hp,hf,hs⟩
 dsimp only
 have z2:((#[.int i t1,.int j t2]:dY).zip #[ua,ub]).size=2:=by simp
 have yY:(arrOf st').size=2:=hp.size_eq.trans z2
 rw[z2]at hs
 unfold ksk_tail
 dsimp only
 refine ai (n_ U0 rfl ?_ (ay rfl) (bN _))
 have sb7:=gU h6 kS (Obj.mapSeq λU=>(#[]:dY))
 have oL7:=(sb7.2 L neK.symm).trans oL6
 obtain⟨e4,oK7⟩:∃e4,(h6.update kS (Obj.mapSeq λU=>(#[]:dY))).get? kS=some (seqObj "list" #[] e4):=⟨_,oq U0 λU=>#[]⟩
 refine ai (wpAny_letGo (ai (seqEpoch_at oL7 rfl ?_)))
 refine ai (n_ oL7 rfl ?_ (bN _) (by rw[af eW,Array.size_map,yY];exact ay rfl))
 simp only[fE,d8]
 generalize abL:(arrOf st').map (·.2)=out
 have sb8:=gU (h6.update kS (Obj.mapSeq λU=>(#[]:dY))) L (Obj.mapSeq λU=>out)
 obtain⟨e5,oL8⟩:∃e5,((h6.update kS (Obj.mapSeq λU=>(#[]:dY))).update L (Obj.mapSeq λU=>out)).get? L=some (seqObj "list" out e5):=⟨_,oq oL7 λU=>out⟩
 have oK8:=(sb8.2 kS neK).trans oK7
 generalize(h6.update kS (Obj.mapSeq λU=>(#[]:dY))).update L (Obj.mapSeq λU=>out)=h8 at sb8 oL8 oK8 |-
 have x8:=n6.h.own (t:=q5.s.toks) (h':=h8) (X:=λx=>x=kS\/x=L) VI (λb o hb e=>(sb8.2 b λz=>hb (.inr z)).trans ((sb7.2 b λz=>hb (.inl z)).trans e)) λb hb=>hb.elim (λz=>z▸⟨_,oK8⟩) λz=>z▸⟨_,oL8⟩
 have o8:=(VI L (.inr rfl)).tI x8.a
 rw[hf]
 simp only[mi,fE,d8]
 refine av ⟨_,rfl,av ⟨_,rfl,?_⟩⟩
 refine w4 (ksk_out (vs:=[ua,ub]) (b:=false) hI hp (by rw[yY];exact hs)) λps h1 h2 h3=>?_
 rw[af eW,abL]at h2
 have oo:out=out.toList.toArray:=(Array.toArray_toList ..).symm
 rw[oo,h2]at oL8
 refine fin L _ e5 _ ?_ (n6.tr x8) o8 nL oL8
 rcases ksk_perm2 (h1:ps.Perm [(i,ua),(j,ub)])with e|e
 ·subst e;exact .inl ⟨(jd.1 h3).1 _ (.head _),rfl⟩
 ·subst e;exact .inr ⟨(jd.1 h3).1 _ (.head _),rfl⟩
theorem Q5 {k kk l:Nat} {f:Str} {np kp wp pos:Pos} {e:Expr} {d dW:D} (hb:G.bi f=some (.builtin "sorted")) (hd:bX fs e d) (nW:fs.names[k]?=some (lF,.local)/\fs.names.lookup lF=some .local) (hk:fs.names[kk]?=some (sQ,.cell)) (hlv:l+2<=fs.lv) (hB:∀code,bX (qp code l) dB.2.1 dW) (hD:zm dW) (hx:d6 fs f) (hp:cK pos e []):
  bX fs (.Call (.Name f np) [e] [⟨some (Str.ofString "key"),.Name lF wp,kp⟩] pos) (yf k kk d):=by
 intro c p st h
 refine .bind λv st₁ e1=>.jn λl0 el=>.jn λab eab=>.iff λhz=>.jn λkv ekv=>.jn λi hi=>.jn λj hj=>.jn λla hla=>.jn λlb hlb=>.iff λUD=>.yes λK E K'=>?_
 have hz:=EZ hz
 have ekv:=vD.1 ekv
 refine wpAny_Call_ofName (sR h hx hb (callWith_kw ?_ (by rw[hp.1];rfl) (by rw[hp.1];rfl)))
 rw[hp.1]
 refine iI (hd h e1 λu q n hu=>?_)
 refine jy (kws_cons ?_)
 refine x3 (n.h.env.ns) λm hm Ka=>?_
 refine x3 (Ka k lF .lam nW.1 hz) λw hw hlr=>?_
 have abM:nV q.Φ c.env.cells w:=hlr.elim (λz=>z.elim) λz=>z.2.2
 refine wpAny_Name (oI c.kind (c.kindOf.trans nW.2) hm hw ?_) (by decide)
 refine kws_nil ?_
 have hu:VR q u (.lst l0):=yk el▸hu
 show wpAny cW c.A (call (.builtin "sorted") [u] [(Str.ofString "key",w)]) K E q.s
 refine xJ (P:=λu=>wpAny cW c.A (call (.builtin "sorted") [u] [(Str.ofString "key",w)]) K E q.s) u hu λal us ht gc=>?_
 rw[yF eab]at gc
 refine gX (Ps:=λus=>ql q.Φ al us->wpAny cW c.A (call (.builtin "sorted") [.ref al] [(Str.ofString "key",w)]) K E q.s) us gc (λua us Fp gc=>qt us gc λub FD ht=>?_) ht
 refine Il n.h abM hk ekv Fp FD hi hj hlv hB hD (ht.isList n.h.inv.eC) λL out m cG ho aw oL nL hL=>?_
 have bE:=aw.tell oL nL hL
 have fin:∀{x y:V} {ux uy:Value},VR q ux x->VR q uy y->out=[ux,uy]->VR (cG.ad L (nR out m)) (.ref L) (.lst [x,y]):=λ{x y ux uy} hx hy e=>by
  subst e
  exact .lst ⟨ay rfl,m,PH.cB _ _ _⟩ (.one (bE.vr hx) (.one (bE.vr hy) .nil))
 refine K' _ (cG.ad L (nR out m)) (n.tr bE) ?_
 have UD:i=j->la=lb:=UD
 show VR (cG.ad L (nR out m)) (.ref L) (.lst (if j<i then[ab.2,ab.1]else[ab.1,ab.2]))
 by_cases q1:j<i
 ·rw[ag q1]
  exact ho.elim (λz=>absurd z.1 (Int.not_le.2 q1)) λz=>fin FD Fp z.2
 ·rw[af q1]
  rcases ho with z|z
  ·exact fin Fp FD z.2
  ·have e:=UD (Int.le_antisymm (jv.1 q1) z.1)
   have ea:=xp hla
   rw[e,<-xp hlb]at ea
   rw[ea]at Fp |-
   exact fin FD Fp z.2
end
section
variable{fs:FS} {c:Cx fs} {p q r jU:Pt} {st st' st₁:St} {scope:Scope} {js:List (Option Nat)} {dA iter elt:Expr} {ifs:List Expr} {pos:Pos} {di:DI} {da:DA} {dt:DT} {de:D}
theorem Lq {x:Str} {px y9:Pos} {dx:DA} (sc:nG fs scope js) (hi:k8 fs dA iter di) (ha:jJ (iL fs scope) dA da) (ht:gF (iL fs scope) ifs dt) (he:bX (iL fs scope) elt de) (hx:jJ fs (.Name x px) dx) (hw:swapsWith (.ListComp elt [⟨dA,iter,ifs,0⟩] scope pos) (some (.Name x px)) y9.line (fK fs)=pure true) (hs:gj iter):
  kh fs (.Assign [.Name x px] (.ListComp elt [⟨dA,iter,ifs,0⟩] scope pos) y9) (ba dx (Fu (a9 di js da dt (aK de) (.list [])))):=by
 intro c p st h
 refine .bind λv bq e1=>.map λdM q3 k E hk=>?_
 refine x3 (aO.1 e1) λy e ey=>?_
 cases ey
 refine x3 (aM.1 e) λz q1 e=>?_
 obtain⟨rr,q2,rfl⟩:=aO.1 e
 rw[exec_Assign_Name_used _ _ _ _ ((c.zq _ _ _).trans hw)]
 refine ai (fY (ai ?_))
 show wpAny _ c.A (do let _<-comprehension (.ListComp elt [⟨dA,iter,ifs,0⟩] scope pos) scope c.env _ (newList []) false (eval iter c.env) (some (assign (.Name x px) c.env))) _ _ p.s
 refine ai (oK (use:=some (assign (.Name x px) c.env)) rfl (hs _) (fR λx hx hf=>sc.cells c (hf▸hx)) sc.kind sc.loc (mB (ELEM:=λc' D EN K s=>wpAny cW c'.A (eval elt c'.env) (λx bR=>wpAny cW c'.A (call (.builtin "list.append") [.ref D,x]) (λU gW=>K gW) EN bR) EN s)
  (RR:=λacc C=>compPost cW c.A E (some (assign (.Name x px) c.env)) _ acc C) h sc hi ha ht m_ rfl (λe U=>qF e) (λhx=>CW he hx) (λJ hJ n s hn=>sC J hJ n hn) q7 q1 q2 λD C q n a oD oC hD hC sM hm=>?_))
 show wpAny _ c.A (assign (.Name x px) c.env (.ref D)) (λU xD=>∃m,xD.heap.Ns C m/\∀h',Heap.SameBut C xD.heap h'->_) E q.s
 obtain⟨m,hm⟩:=hm
 have n₁:=n.liv oD hD a
 have zu:Own c (q.lv D) C:=⟨oC.kp,oC.eC,λm=>(bF.1 m).elim oC.tF λm=>sM (a7.1 m),oC.yZ,oC.ex⟩
 have own:∀b,b=C->Own c (q.lv D) b:=λb hb=>hb▸zu
 refine hx (n₁.h.plus own) (show VR (q.lv D) (.ref D) (.ref rr.2.H.length)from⟨D,rfl,tK n.h.inv.len⟩) q3 λU cG aw U=>⟨m,qz hm λo e=>n₁.h.held own aw.h rfl e,λh' sb=>?_⟩
 have bE:=n₁.tr (aw.minus n₁.h own)
 exact av (av (hk _ _ (bE.fin (wr:=[C]) (h':=h') (t:=cG.s.toks) (lE (zu.tI aw.a)) (λb o hb e=>(sb.2 b λz=>hb (z▸.head _)).trans e) (lE hC)) rfl))
end
set_option backward.match.sparseCases false
noncomputable def f_:V:=.str [46,46,46]
noncomputable def jW (i:Int):Bool:=[173,847,6150,6155,6156,6157,8203,8204,8205,8288,65279].contains i||(decide (65024<=i)&&decide (i<65040))
noncomputable def dictAt (body:List Stmt) (i:Nat):List (Int×ar):=match body[i]? with
 |some (.Assign _ (.Dict ks vs _) _)=>(ks.zip vs).filterMap λx=>match x with
  |(some (.Constant (.int i) _ _),.Constant (.str x) _ _)=>some (i,x.cps.toList)
  |_=>none
 |_=>[]
def Pk:List (Int×ar):=dictAt PySem.Challenge.pw_xb0035_01.main.body 11
def A7 (i:Int):Option ar:=Pk.lookup i
def HP:List Stmt×Scope:=G_ PySem.Challenge.pw_xb0035_01.main.body 4 0
def kY:List Stmt×Scope:=funAt PySem.Challenge.pw_xb0035_01.main.body 13
def we:DS:=ax (eB (mM eqZ (aa 0) (dC (.str [32]))))
 aT
def fe:=tH 1 0 we
def lI:List Stmt×Scope:=funAt PySem.Challenge.pw_xb0035_01.main.body 10
def wI:DS:=ax (eB (yg jW (a5 FZ (ae (aa 0) az))))
 aT
def jj:=tH 1 2 wI
def kX:List Stmt×Scope:=funAt PySem.Challenge.pw_xb0035_01.main.body 12
def wc:DS:=ax (ba (ah 1) (C1 A7 (a5 FZ (ae (aa 0) az))))
 (ax (j9 (aS fy (aa 1) (dC .none)) (ax (eB (aa 1))
 aT) aT)
 (ax (eB (bC nH Bm (aa 0) az))
 aT))
def iJ:=tH 1 3 wc
def sF:List Stmt×Scope:=G_ PySem.Challenge.pw_xb0035_01.main.body 4 1
def E7:DS:=ax (gJ (cI (KA (aa 0))) (bx (ao (ah 3) (ao (ah 4) bf))) (ax (ba (ah 5) (aH (aa 1) (aa 3)))
 (ax (ba (ah 6) (aH (aa 2) (aa 3)))
 (ax (j9 (aS ltV (aa 5) (aa 6)) (ax (eB (lN (aa 4)))
 aT) aT)
 (ax (j9 (aS xH (aa 5) (aa 6)) (ax (eB (aa 4))
 aT) aT)
 aT)))))
 (ax (eB (dC (.int 0)))
 aT)
def bU:=tH 3 4 E7
def lJ:List Stmt×Scope:=funAt PySem.Challenge.pw_xb0035_01.main.body 7
def wJ:DS:=ax (ba (ah 1) (dC (.int 0)))
 (ax (gJ (tV (aa 0)) (ah 2) (ax (A_ 1 uv (aa 2))
 aT))
 (ax (eB (aa 1))
 aT))
def fP:=tH 1 2 wJ
def lK:List Stmt×Scope:=funAt PySem.Challenge.pw_xb0035_01.main.body 6
def wK:DS:=ax (ba (ah 2) qs)
 (ax (gJ (kB (aa 0)) (bx (ao (ah 3) (ao (ah 4) bf))) (ax (jM (aa 2) (aa 3) (aa 4))
 aT))
 (ax (gJ (kB (aa 1)) (bx (ao (ah 3) (ao (ah 4) bf))) (ax (j9 (aS UB (aa 3) (aa 2)) (ax (j9 (nF (OV isTup (aa 4))) (ax (jM (aa 2) (aa 3) (tW (ae (aa 4) (ae (aH (aa 2) (aa 3)) az))))
 aT) (ax (lr uv (aa 2) (aa 3) (aa 4))
 aT))
 aT) (ax (jM (aa 2) (aa 3) (aa 4))
 aT))
 aT))
 (ax (eB (Nm (aa 2)))
 aT)))
def fQ:=tH 2 6 wK
def iK:List Stmt×Scope:=funAt PySem.Challenge.pw_xb0035_01.main.body 2
def uA:DS:=ax (ba (ah 3) (bC nH CH (aa 1) (ae (aa 5) (ae (aa 3) (ae (aa 4) az)))))
 (ax (j9 (aS ltV (aa 3) (dC (.int 0))) (ax (eB (dC (.bool false)))
 aT) aT)
 (ax (A_ 3 uv (a5 iN (ae (aa 5) az)))
 aT))
def eJ:DS:=ax (j9 (aS rV (dC f_) (aa 0)) (ax (eB (mM eqZ (aa 0) (aa 1)))
 aT) aT)
 (ax (ba (ah 2) (u3 nH uS (aa 0) (ae (dC f_) az)))
 (ax (tX (aS (rJ λa b=>decide (a>=b)) (a5 iN (ae (aa 2) az)) (dC (.int 2))))
 (ax (gD 3 4 (bb (ae (dC (.int 0)) (ae (a5 iN (ae (aa 1) az)) az))))
 (ax (ba (ah 5) (aH (aa 2) (dC (.int 0))))
 (ax (j9 (nF (aa 5)) (ax (j9 (nF (bC nH yu (aa 1) (ae (aa 5) az))) (ax (ba (ah 3) (a5 iN (ae (aa 5) az)))
 (ax (Ed (aa 2) (dC (.int 0)))
 aT)) (ax (eB (dC (.bool false)))
 aT))
 aT) aT)
 (ax (ba (ah 5) (aH (aa 2) (lN (dC (.int 1)))))
 (ax (j9 (nF (aa 5)) (ax (j9 (nF (bC nH CJ (aa 1) (ae (aa 5) az))) (ax (A_ 4 gI (a5 iN (ae (aa 5) az)))
 (ax (Ed (aa 2) (lN (dC (.int 1))))
 aT)) (ax (eB (dC (.bool false)))
 aT))
 aT) aT)
 (ax (tn 2 (j9 (aS xH (aa 3) (aa 4)) (ax (eB (dC (.bool false)))
 aT) aT))
 (ax (gJ (cI (aa 2)) (ah 5) uA)
 (ax (eB (dC (.bool true)))
 aT))))))))))
def a8:=tH 2 6 eJ
def jQ:List Stmt×Scope:=funAt PySem.Challenge.pw_xb0035_01.main.body 15
def tC:DS:=ax (eB (fS (a9 (cZ (ae (aB addW (aa 0) (dC (.int 1))) az)) [none,none,none,none,some 0] (ah 1) dp (lq (cZ (ae (aB gI (aB addW (aa 4) (dC (.int 1))) (aa 1)) az)) (ah 2) dp (aK (bb (ae (aa 1) (ae (aa 2) (ae (aB gI (aB gI (aa 4) (aa 1)) (aa 2)) az)))))) (.list []))))
 aT
def cq:=tH 1 1 tC
def oR:List Stmt×Scope:=funAt PySem.Challenge.pw_xb0035_01.main.body 16
def AE:DS:=ax (eB (aB addW (aB addW (aB h_ (dC (.str [102])) (aH (aa 0) (dC (.int 0)))) (aB h_ (dC (.str [105])) (aH (aa 0) (dC (.int 1))))) (aB h_ (dC (.str [108])) (aH (aa 0) (dC (.int 2))))))
 aT
def aU:=tH 1 0 AE
def nr:List Stmt×Scope:=funAt PySem.Challenge.pw_xb0035_01.main.body 17
def N6:D:=a5 A9 (ae (aB gI (aB addW (aa 4) (a5 FZ (ae (aa 1) az))) (dC (.int 97))) az)
def C6:gf:=a9 (cI (aa 2)) [none,none,none,none,some 4] (ah 1) dp (aK N6) (.list [])
def rm:DS:=ax (ba (ah 2) (aN aU (ae (aa 0) az)))
 (ax (ba (ah 3) (nU (mL (dC (.str [102,102])) (dC (.str [64256])) (mL (dC (.str [102,105])) (dC (.str [64257])) (mL (dC (.str [102,108])) (dC (.str [64258])) (mL (dC (.str [102,102,102])) (dC (.str [64256,102])) (mL (dC (.str [102,102,105])) (dC (.str [64259])) (mL (dC (.str [102,102,108])) (dC (.str [64260])) (mL (dC (.str [102,105,105])) (dC (.str [64257,105])) (mL (dC (.str [102,105,108])) (dC (.str [64257,108])) (mL (dC (.str [102,108,108])) (dC (.str [64258,108])) uq)))))))))))
 (ax (ba (ah 4) (aB addW (dC (.int 119808)) (aB h_ (dC (.int 52)) (aH (bb (ae (dC (.int 0)) (ae (dC (.int 1)) (ae (dC (.int 2)) (ae (dC (.int 4)) (ae (dC (.int 7)) (ae (dC (.int 8)) (ae (dC (.int 9)) (ae (dC (.int 10)) (ae (dC (.int 11)) (ae (dC (.int 12)) az))))))))))) (aB fw (aB fL (aa 1) (dC (.int 3))) (dC (.int 10)))))))
 (ax (ba (ah 5) (aH (bb (ae (bC xK nT (aa 3) (ae (aa 2) (ae (aa 2) az))) (ae (bC nH uR (w5 (aa 2) (lN (dC (.int 1)))) az) (ae (bC nH k_ (dC (.str [])) (ae (fS C6) az)) az)))) (aB fw (aa 1) (dC (.int 3)))))
 (ax (ba (ah 6) (aH (bb (ae (dC (.int 173)) (ae (dC (.int 847)) (ae (dC (.int 6150)) (ae (dC (.int 6155)) (ae (dC (.int 6156)) (ae (dC (.int 6157)) (ae (dC (.int 8203)) (ae (dC (.int 8204)) (ae (dC (.int 8205)) (ae (dC (.int 8288)) (ae (dC (.int 65279)) (ae (aB addW (dC (.int 65024)) (aB fw (aB fL (aa 1) (dC (.int 1440))) (dC (.int 16)))) az))))))))))))) (aB fw (aB fL (aa 1) (dC (.int 120))) (dC (.int 12)))))
 (ax (ba (ah 7) (aB fw (aB fL (aa 1) (dC (.int 30))) (aB addW (a5 iN (ae (aa 5) az)) (dC (.int 1)))))
 (ax (eB (aB addW (aB addW (cS (aa 5) ti (dP (aa 7))) (a5 A9 (ae (aa 6) az))) (cS (aa 5) (dP (aa 7)) ti)))
 aT))))))
def fF:=tH 2 9 rm
def iZ:List Stmt×Scope:=funAt PySem.Challenge.pw_xb0035_01.main.body 5
def sJ:DS:=ax (ba (bx (ao (ah 2) (ao (ah 3) (ao (ah 4) (ao (ah 5) (ao (ah 6) bf)))))) (aa 1))
 (ax (ba (bx (ao (ah 7) (ao (ah 8) (ao (ah 9) (ao (ah 10) (ao (ah 11) bf)))))) (aa 0))
 (ax (eB (bb (ae (aB addW (aa 2) (aa 7)) (ae (aB addW (aa 3) (aa 8)) (ae (aB addW (aa 4) (aa 9)) (ae (aB addW (aa 5) (aa 10)) (ae (aN fQ (ae (aa 11) (ae (aa 6) az))) az)))))))
 aT))
def cD:=tH 2 11 sJ
def oU:List Stmt×Scope:=funAt PySem.Challenge.pw_xb0035_01.main.body 18
def GI:gf:=a9 (cI (bb (ae (aa 4) (ae (aa 5) az)))) [none,none] (ah 1) (jt (aS fy (aa 1) (dC (.bool true))) (jt (aS fy (aa 1) (dC (.bool false))) pJ)) (aK (aa 1)) (.list [])
def Gd:DS:=ax (gD 4 5 (bb (ae (aN fe (ae (aa 3) az)) (ae (aN jj (ae (aa 3) az)) az))))
 (ax (fU (bC ry i6 (aa 1) (ae (fS GI) az)))
 (ax (j9 (nF (aa 4)) (ax (fU (bC ry fX (aa 2) (ae (bb (ae (dC (.int 0)) (ae (dC (.int 0)) (ae (dC (.int 0)) (ae (dC (.int 0)) (ae lj az)))))) az)))
 aT) (ax (j9 (CY (nF (aa 5))) (ax (ba (ah 6) (aN iJ (ae (aa 3) az)))
 (ax (jM (aa 2) (lN (dC (.int 1))) (aN cD (ae (aH (aa 2) (lN (dC (.int 1)))) (ae (bb (ae (bC nH rW (aa 6) (ae (dC (.str [102])) az)) (ae (bC nH rW (aa 6) (ae (dC (.str [105])) az)) (ae (bC nH rW (aa 6) (ae (dC (.str [108])) az)) (ae (a5 iN (ae (aa 6) az)) (ae (nU (mL (aa 6) (dC (.int 1)) uq)) az)))))) az))))
 aT)) aT)
 aT))
 aT))
def s_:DS:=ax (ba (ah 2) (iS (ae (bb (ae (dC (.int 0)) (ae (dC (.int 0)) (ae (dC (.int 0)) (ae (dC (.int 0)) (ae lj az)))))) az)))
 (ax (gJ (cI (aa 0)) (ah 3) Gd)
 (ax (eB (Nm (aa 2)))
 aT))
def jD:=tH 2 10 s_
def oT:List Stmt×Scope:=funAt PySem.Challenge.pw_xb0035_01.main.body 19
def AF:DS:=ax (ba (ah 2) (eL (ae (aB h_ (dC (.str [102])) (aH (aa 0) (dC (.int 0)))) (ae (aB h_ (dC (.str [105])) (aH (aa 0) (dC (.int 1)))) (ae (aB h_ (dC (.str [108])) (aH (aa 0) (dC (.int 2)))) az)))))
 (ax (eB (bC nH k_ (dC (.str [46,46,46])) (ae (lO (aS eqZ (aa 1) (dC (.int 0))) (aa 2) (jr lG (jr lG (eL (ae (dC (.str [])) az)) (lO (aS eqZ (aa 1) (dC (.int 1))) (fS (a9 (cI (aa 2)) [none,none] (ah 1) (aS mG (aa 1) (dC (.str []))) (aK (aa 1)) (.list []))) (a5 zD (ae (bC nH k_ (dC (.str [])) (ae (aa 2) az)) az)))) (eL (ae (dC (.str [])) az)))) az)))
 aT)
def gu:=tH 2 2 AF
def oW:List Stmt×Scope:=funAt PySem.Challenge.pw_xb0035_01.main.body 20
def N8:D:=mM (rJ λa b=>decide (a>=b)) (aH (aa 2) (aa 1)) (aH (aa 3) (aa 1))
def GH:gf:=a9 (cZ (ae (dC (.int 3)) az)) [none,none,some 0,some 10] (ah 1) dp (aK N8) (.list [])
def Cz:DS:=ax (ba (ah 12) (aB addW (aB addW (aa 9) (dC (.str [32]))) (aa 7)))
 (ax (j9 (aS rV (aa 12) (aa 4)) (ax (jM (aa 4) (aa 12) (aN a8 (ae (aa 9) (ae (aa 7) az))))
 (ax (j9 (aS fy (aH (aa 4) (aa 12)) (a5 F2 (ae (fS GH) az))) (ax (fU (bC ry fX (aa 3) (ae (aa 12) az)))
 aT) aT)
 aT)) aT)
 (ax (j9 (nF (aH (aa 4) (aa 12))) (ax (fU (bC ry fX (aa 8) (ae (aa 11) az)))
 (ax PD
 aT)) aT)
 aT))
def Cy:DS:=ax (gD 7 8 (bb (ae (aN aU (ae (aa 0) az)) (ae (iS az) az))))
 (ax (gJ (cI (jr lG (cS (aa 1) (dP (aa 5)) ti) (cS (aa 1) ti (dP (aa 5))))) (bx (ao (ah 9) (ao (ah 10) (ao (ah 11) bf)))) Cz)
 (ax (j9 (aS eqZ (aa 8) (eL az)) (ax PD
 aT) aT)
 (ax (ba (ah 0) (aN cD (ae (aa 0) (ae (aH (aa 8) (dC (.int 0))) az))))
 aT)))
def AH:DS:=ax (ba (ah 5) (aB fw (aa 2) (aB addW (a5 iN (ae (aa 1) az)) (dC (.int 1)))))
 (ax (gJ (cZ (ae (dC (.int 15)) az)) (ah 6) Cy)
 (ax (eB (aa 0))
 aT))
def gv:=tH 5 14 AH
def oV:List Stmt×Scope:=funAt PySem.Challenge.pw_xb0035_01.main.body 21
def Ot:gf:=a9 (cI (aa 5)) [none,none,none,none,none] (bx (ao (ah 1) (ao (ah 2) (ao (ah 3) bf)))) (aS fy (aN a8 (ae (aa 1) (ae (aa 2) az))) (aa 3)) (aK (aa 1)) (.list [])
def Ob:D:=bb (ae (aB addW (aB addW (cS (aa 2) ti (dP (aa 1))) (dC (.str [46,46,46]))) (cS (aa 2) (dP (aa 1)) ti)) (ae (aa 3) (ae (mM eqZ (aB addW (cS (aa 3) ti (dP (aa 1))) (cS (aa 3) (dP (aB addW (aa 1) (dC (.int 1)))) ti)) (aa 2)) az)))
def aal:gf:=a9 (cZ (ae (aB fw (aa 6) (dC (.int 2))) (ae (aB addW (a5 iN (ae (aa 4) az)) (dC (.int 1))) (ae (dC (.int 2)) az)))) [none,none,some 4,some 8] (ah 1) dp (aK Ob) (.list [])
def Oa:D:=bb (ae (bC nH k_ (dC (.str [46,46,46])) (ae (jr mulL (eL (ae (aa 3) az)) (aa 1)) az)) (ae (aB h_ (aa 3) (aa 2)) (ae (mM (rJ λa b=>decide (a>=b)) (aa 2) (aa 1)) az)))
def aak:gf:=a9 (cI (bb (ae (bb (ae (dC (.int 2)) (ae (dC (.int 1)) az))) (ae (bb (ae (dC (.int 2)) (ae (dC (.int 2)) az))) (ae (bb (ae (dC (.int 3)) (ae (dC (.int 2)) az))) (ae (bb (ae (dC (.int 3)) (ae (dC (.int 3)) az))) az)))))) [none,none,none,some 4] (bx (ao (ah 1) (ao (ah 2) bf))) dp (aK Oa) (.list [])
def N_:D:=bb (ae (bC nH k_ (dC (.str [46,46,46])) (ae (jr lG (jr lG (eL (ae (dC (.str [])) az)) (a5 zD (ae (w5 (aa 4) (lN (dC (.int 1)))) az))) (eL (ae (dC (.str [])) az))) az)) (ae (aB h_ (aa 4) (aa 1)) (ae (PC (mM xH (aa 1) (dC (.int 1))) (mM eqZ (aa 4) (aB h_ (aH (aa 4) (dC (.int 0))) (a5 iN (ae (aa 4) az))))) az)))
def aaj:gf:=a9 (cI (bb (ae (dC (.int 1)) (ae (a5 iN (ae (aa 4) az)) az)))) [none,none,none,none,some 4] (ah 1) dp (aK N_) (.list [])
def Gb:DS:=ax (ba (ah 7) (aB addW (aB addW (cS (aa 0) ti (dP (aa 6))) (bb (ae (aB addW (aH (aa 0) (aa 6)) (dC (.int 1))) az))) (cS (aa 0) (dP (aB addW (aa 6) (dC (.int 1)))) (dP (dC (.int 3))))))
 (ax (ba (bx (ao (ah 8) (ao (ah 9) bf))) (bb (ae (aN aU (ae (aa 7) az)) (ae (eL (ae (uJ bU (aa 2) (ae (aa 7) (ae (aa 0) az))) (ae (uJ bU (aa 2) (ae (aa 0) (ae (aa 7) az))) az))) az))))
 (ax (fU (bC ry i6 (aa 3) (ae (lO (aS eqZ (aa 9) (eL (ae (bC xK nT (aa 1) (ae (aa 6) (ae (dC (.int 0)) az))) (ae (lN (bC xK nT (aa 1) (ae (aa 6) (ae (dC (.int 0)) az)))) az)))) (eL az) (aa 9)) az)))
 (ax (fU (bC ry i6 (aa 5) (ae (jr lG (eL (ae (bb (ae (aa 4) (ae (aa 8) (ae (dC (.bool false)) az)))) az)) (fS aal)) az)))
 aT)))
def AG:DS:=ax (ba (ah 4) (aN aU (ae (aa 0) az)))
 (ax (ba (ah 5) (Fu aaj))
 (ax (fU (bC ry i6 (aa 5) (ae (fS aak) az)))
 (ax (tn 5 (gJ (cZ (ae (dC (.int 3)) az)) (ah 6) Gb))
 (ax (fU (bC ry i6 (aa 3) (ae (fS Ot) az)))
 aT))))
def g9:=tH 4 9 AG
def nv:List Stmt×Scope:=funAt PySem.Challenge.pw_xb0035_01.main.body 22
def Z9:D:=aN cD (ae (aB addW (aa 4) (bb (ae (a5 g0 (ae (aa 4) az)) (ae lj az)))) (ae (aa 1) az))
def Oi:gf:=a9 (cI (bb (ae (aa 17) (ae (aa 14) az)))) [none,none,none,none,some 18] (ah 1) dp (aK Z9) (.list [])
def Z8:D:=a5 Px (ae (aH (aa 4) (aa 1)) (ae (aH (aa 3) (aa 1)) az))
def GG:gf:=a9 (cZ (ae (dC (.int 3)) az)) [none,none,none,some 12,some 16] (ah 1) dp (aK Z8) (.list [])
def Z7:D:=lO (aS xH (aH (aa 3) (aa 1)) (aH (aa 4) (aa 1))) (aa 2) (lN (aa 2))
def GD:gf:=a9 (cI (aa 1)) [none,none,none,some 8,some 9] (bx (ao (ah 1) (ao (ah 2) bf))) (aS mG (aH (aa 3) (aa 1)) (aH (aa 4) (aa 1))) (aK Z7) (.list [])
def N7:D:=aN gv (ae (aa 1) (ae (aa 6) (ae (aa 5) (ae (aa 4) (ae (aa 3) az)))))
def C7:gf:=a9 (cI (bC ry D_ (aa 0) (ae (dC (.int 0)) az))) [none,none,none,some 5,some 4,some 3,some 6] (ah 1) dp (aK N7) (.list [])
def wO:DS:=ax (ba (ah 18) (a5 zC (ae (fS GG) az)))
 (ax (j9 (aS (rJ λa b=>decide (a<=b)) (a5 g0 (ae (aa 18) az)) (aa 2)) (ax (fU (bC ry fX (aa 0) (ae (fS Oi) az)))
 aT) aT)
 aT)
def zo:DS:=ax (ba (sT (ao (ah 8) (ao (ah 9) bf))) (fS C7))
 (ax (ba (ah 10) (uJ bU (aa 7) (ae (aa 8) (ae (aa 9) az))))
 (ax (ba (ah 11) (fS GD))
 (ax (j9 (iV (aS mG (aa 10) (aH (jr lG (aa 11) (eL (ae (dC (.int 0)) az))) (dC (.int 0)))) (iV (nF (OV isBool (aa 10))) (iV (aS fy (aN a8 (ae (aN aU (ae (aa 8) az)) (ae (aN aU (ae (aa 9) az)) az))) (mM eqZ (aa 10) (dC (.int 0)))) tm))) (ax (fU (bC ry fX (aa 4) (ae (aa 10) az)))
 aT) (ax (j9 (aS mG (aa 10) (dC (.int 0))) (ax (ba (bx (ao (ah 12) (ao (ah 13) bf))) (lO (aS xH (aa 10) (dC (.int 0))) (bb (ae (aa 8) (ae (aa 9) az))) (bb (ae (aa 9) (ae (aa 8) az)))))
 (ax (ba (ah 14) (bb (ae (aB gI (aH (aa 13) (dC (.int 0))) (aH (aa 12) (dC (.int 0)))) (ae (aB gI (aH (aa 13) (dC (.int 1))) (aH (aa 12) (dC (.int 1)))) (ae (aB gI (aH (aa 13) (dC (.int 2))) (aH (aa 12) (dC (.int 2)))) (ae (dC (.int 0)) (ae (nU (mL (aN aU (ae (aa 12) az)) (dC (.int 1)) uq)) az)))))))
 (ax (zG (aa 6) (bx (ao (ah 15) (ao (ah 16) (ao (ah 17) bf)))) wO)
 (ax (fU (bC ry fX (aa 6) (ae (bb (ae (aN gu (ae (aa 12) (ae (aB fw (aB addW (aa 3) (a5 iN (ae (aa 6) az))) (dC (.int 3))) az))) (ae (cS (aa 12) ti (dP (dC (.int 3)))) (ae (aa 14) az)))) az)))
 (ax (fU (aN g9 (ae (aa 12) (ae (a5 r5 (ae (aa 1) az)) (ae (aa 7) (ae (aa 4) az))))))
 aT))))) aT)
 aT))
 aT)))
def rn:DS:=ax (ba (bx (ao (ah 6) (ao (ah 7) bf))) (bb (ae (iS az) (ae (OU (aa 1)) az))))
 (ax (jZ (jt (aS mG (aa 0) (eL az)) (jt (aS eqZ (aa 4) (eL az)) pJ)) zo 2000)
 (ax (eB (Nm (aa 6)))
 aT))
def gA:=tH 6 25 rn
def ie:List Stmt×Scope:=funAt PySem.Challenge.pw_xb0035_01.main.body 23
def C9:gf:=a9 (cI (aa 30)) [none,none,some 30] (ah 1) (aS mG (aH (aH (aa 2) (aa 1)) (dC (.int 4))) (nU (mL (aa 1) (dC (.int 1)) uq))) (aK (aa 1)) (.list [])
def Z':D:=aB gI (aH (aa 2) (aa 1)) (aB h_ (aa 5) (aH (aH (aa 4) (aa 3)) (aa 1)))
def Oq:gf:=a9 (cZ (ae (dC (.int 3)) az)) [none,none,some 34,some 35,some 30,some 15] (ah 1) dp (aK Z') (.list [])
def C8:gf:=a9 (cI (aa 22)) [none,none,none,none,none] (bx (ao (ah 1) (ao (ah 2) (ao (ah 3) bf)))) dp (jY (aN aU (ae (aa 2) az)) (aa 3)) (.dict [] [])
def Oo:gf:=a9 (kB (aH (aa 25) (aa 20))) [none,none,none,some 28,some 27] (bx (ao (ah 1) (ao (ah 2) bf))) dp (jY (aa 1) (lO (aS eqZ (aa 2) (aa 3)) (aa 4) (aa 2))) (.dict [] [])
def Z_:D:=aB addW (aH (aa 3) (aa 1)) (aH (aa 2) (aa 1))
def Om:gf:=a9 (cZ (ae (dC (.int 3)) az)) [none,none,some 6,some 1] (ah 1) dp (aK Z_) (.list [])
def N9:D:=aH (aH (aa 4) (aa 5)) (aN aU (ae (fS Om) az))
def Ol:gf:=a9 (cI (aa 12)) [none,none,none,none,some 25,some 20,some 26] (ah 1) dp (aK N9) (.list [])
def Oj:gf:=a9 (cZ (ae (a5 g0 (ae (aH (aa 12) (dC (.int 0))) az)) (ae (aB addW (aa 9) (dC (.int 1))) az))) [none,none,none,none,none,some 12] (ah 1) dp (lq (cI (aN cq (ae (aB gI (aa 1) (a5 g0 (ae (aH (aa 5) (dC (.int 0))) az))) az))) (ah 2) dp (aK (bb (ae (aa 1) (ae (aa 2) az))))) (.list [])
def aai:gf:=a9 (cI (aN cq (ae (aa 1) az))) [none,none,none] (ah 1) dp (jY (aN aU (ae (aa 1) az)) (aa 1)) (.dict [] [])
def zL:gf:=a9 (cZ (ae (aB addW (aa 9) (dC (.int 1))) az)) [none,none,none] (ah 1) dp (aK (fS aai)) (.list [])
def yh:gf:=a9 (cZ (ae (dC (.int 2)) (ae (aB addW (aa 9) (dC (.int 1))) az))) [none,none,none,none] (ah 1) dp (lq (cI (aN cq (ae (aa 1) az))) (ah 2) dp (aK (aa 2))) (.list [])
def Hw:D:=bb (ae (aH (aa 3) (aa 1)) (ae (aB h_ (aH (bb (ae (dC (.int 1)) (ae (dC (.int 3)) (ae (dC (.int 2)) az)))) (aa 1)) (aB gI (dC (.int 1)) (aB h_ (dC (.int 2)) (aB KH (aB FN (aB fL (aH (aa 2) (dC (.int 6))) (dC (.int 6))) (aa 1)) (dC (.int 1)))))) az))
def HG:gf:=a9 (cZ (ae (aB gI (dC (.int 3)) (aB fw (aB fL (aH (aa 1) (dC (.int 6))) (dC (.int 48))) (dC (.int 2)))) az)) [none,none,some 1,some 19] (ah 1) dp (aK Hw) (.list [])
def Hv:D:=bb (ae (aB addW (aa 1) (bb (ae (a5 g0 (ae (aa 1) az)) az))) (ae (a5 zD (ae (aN aU (ae (aa 1) az)) az)) (ae (aB gI (a5 iN (ae (aa 2) az)) (dC (.int 1))) az)))
def HF:gf:=a9 (Kz (ae (aa 12) (ae (aa 13) az))) [none,none,none,none,none,none,none] (bx (ao (ah 1) (ao (ah 2) bf))) dp (aK Hv) (.list [])
def HE:gf:=a9 (kB (aH (aa 1) (dC (.int 4)))) [none,none,none] (bx (ao (ah 1) (ao (ah 2) bf))) dp (aK (aB h_ (aa 1) (aa 2))) (.list [])
def Hu:D:=bb (ae (cS (aa 1) ti (dP (dC (.int 4)))) (ae (a5 BG (ae (bC nH k_ (dC (.str [])) (ae (fS HE) az)) az)) (ae (aN fP (ae (aH (aa 1) (dC (.int 4))) az)) az)))
def HD:gf:=a9 (cI (aa 14)) [none,none,none,none] (ah 1) dp (aK Hu) (.list [])
def CB:DS:=ax (ba (ah 34) (a5 zC (ae (fS Oq) az)))
 aT
def wR:DS:=ax (gD 18 33 (bb (ae (aH (aH (aa 25) (a5 g0 (ae (aa 21) az))) (aN aU (ae (aa 21) az))) (ae (aB addW (aa 21) (bb (ae (a5 g0 (ae (aa 21) az)) (ae lj az)))) az))))
 (ax (ba (ah 29) (aN gv (ae (aa 33) (ae (aa 22) (ae (aa 10) (ae (aa 3) (ae (aa 6) az)))))))
 (ax (ba (ah 34) (cS (aa 29) ti (dP (dC (.int 3)))))
 (ax (gJ (kB (aH (aa 29) (dC (.int 4)))) (bx (ao (ah 35) (ao (ah 15) bf))) CB)
 (ax (j9 (iV (aS mG (cS (aa 29) ti (dP (dC (.int 4)))) (aB addW (aa 18) (bb (ae (a5 g0 (ae (aa 21) az)) az)))) (iV (aS mG (aa 34) (aa 21)) (iV (aS mG (aH (aa 33) (dC (.int 4))) lj) (iV (aS fy (mM eqZ (aN fP (ae (aH (aa 29) (dC (.int 4))) az)) (dC (.int 0))) (mM eqZ (aa 18) (aa 21))) tm)))) (ax (eB (dC (.bool false)))
 aT) aT)
 (ax (j9 (aS eqZ (a5 g0 (ae (aa 21) az)) (aa 9)) (ax (ba (ah 31) (aN fQ (ae (aa 31) (ae (nU (mL (aN aU (ae (aa 29) az)) (bb (ae (aH (aa 2) (aB fw (aa 7) (dC (.int 15)))) (ae (dC (.int 1)) az))) uq)) az))))
 (ax (ba (ah 36) (bC xK nT (aa 32) (ae (aN aU (ae (aa 18) az)) (ae (bb (ae (dC (.int 0)) (ae (dC (.int 0)) az))) az))))
 (ax (jM (aa 32) (aN aU (ae (aa 18) az)) (bb (ae (aB addW (aH (aa 36) (dC (.int 0))) (aH (aa 2) (aB fw (aa 7) (dC (.int 15))))) (ae (aB addW (aH (aa 36) (dC (.int 1))) (dC (.int 1))) az))))
 aT))) aT)
 aT)))))
def Ga:DS:=ax (ba (sT (ao (ah 27) (ao (ah 28) bf))) (yf 24 37 (fS Ol)))
 (ax (jM (aa 25) (aa 20) (lO (aS eqZ (aa 27) (aa 28)) (aH (aa 25) (aa 20)) (fS Oo)))
 aT)
def wQ:DS:=ax (gJ (cI (fS Oj)) (bx (ao (ah 20) (ao (ah 26) bf))) Ga)
 aT
def CA:DS:=ax (ba (ah 11) (aN cq (ae (lO (nF (aB fw (aH (aa 1) (aa 7)) (dC (.int 3)))) (dC (.int 2)) (dC (.int 3))) az)))
 (ax (ba (ah 12) (bb (ae (aH (aa 11) (aB fw (aB fL (aH (aa 1) (aa 7)) (dC (.int 3))) (a5 iN (ae (aa 11) az)))) (ae (aH (aa 11) (aB fw (aB fL (aB fL (aH (aa 1) (aa 7)) (dC (.int 3))) (a5 iN (ae (aa 11) az))) (a5 iN (ae (aa 11) az)))) az))))
 (ax (ba (ah 13) (eL (ae (aN fF (ae (aH (aa 12) (dC (.int 0))) (ae (aH (aa 1) (aB addW (aa 7) (dC (.int 3)))) az))) (ae (aN fF (ae (aH (aa 12) (dC (.int 1))) (ae (aB fL (aH (aa 1) (aB addW (aa 7) (dC (.int 3)))) (dC (.int 7))) az))) az))))
 (ax (ba (ah 14) (aN jD (ae (bC nH k_ (dC (.str [32])) (ae (aa 13) az)) (ae (aa 3) az))))
 (ax (ba (ah 16) (fS HD))
 (ax (ba (ah 17) (a5 A9 (ae (aH (bb (ae (dC (.int 9)) (ae (dC (.int 160)) (ae (dC (.int 5760)) (ae (dC (.int 8195)) (ae (dC (.int 8239)) (ae (dC (.int 8287)) (ae (dC (.int 12288)) az)))))))) (aB fw (aH (aa 1) (aB addW (aa 7) (dC (.int 3)))) (dC (.int 7)))) az)))
 (ax (j9 (iV (aS mG (aa 16) (fS HF)) (iV (aS fy (aN fe (ae (aa 17) az)) (dC (.bool false))) tm)) (ax (eB (dC (.bool false)))
 aT) aT)
 (ax (gD 4 5 (bb (ae (jr lG (aa 4) (eL (ae (aa 12) az))) (ae (w6 lG (aa 5) (eL (ae (aa 14) az))) az))))
 aT)))))))
def F_:DS:=ax (lr uv (aa 1) (aB fw (aa 7) (dC (.int 7))) (aB fw (aa 8) (dC (.int 1000003))))
 (ax (lr uv (aa 2) (aB fw (aa 7) (dC (.int 15))) (aa 8))
 aT)
def CX:DS:=ax (ba (bx (ao (ah 1) (ao (ah 2) (ao (ah 3) (ao (ah 4) (ao (ah 5) (ao (ah 6) bf))))))) (bb (ae (iS (ae (dC (.int 34)) (ae (dC (.int 13)) (ae (dC (.int 9)) (ae (dC (.int 66)) (ae (dC (.int 1435)) (ae (dC (.int 812)) (ae (dC (.int 0)) az)))))))) (ae (CZ (ae (dC (.int 1)) (ae (dC (.int 16)) az))) (ae (iS az) (ae (eL az) (ae (iS az) (ae qs az))))))))
 (ax (gJ (nA (cS (aa 0) ti (dP (dC (.int 60))))) (bx (ao (ah 7) (ao (ah 8) bf))) F_)
 (ax (gD 9 10 (bb (ae (aB addW (dC (.int 3)) (aB fw (aB fL (aH (aa 1) (dC (.int 6))) (dC (.int 96))) (dC (.int 2)))) (ae (aB fL (aH (aa 1) (dC (.int 6))) (dC (.int 192))) az))))
 (ax (gJ (cZ (ae (aB gI (dC (.int 6)) (aa 9)) az)) (ah 7) CA)
 (ax (ba (ah 19) (aH (bb (ae (bb (ae (dC (.int 0)) (ae (dC (.int 1)) (ae (dC (.int 2)) az)))) (ae (bb (ae (dC (.int 0)) (ae (dC (.int 2)) (ae (dC (.int 1)) az)))) (ae (bb (ae (dC (.int 1)) (ae (dC (.int 0)) (ae (dC (.int 2)) az)))) (ae (bb (ae (dC (.int 1)) (ae (dC (.int 2)) (ae (dC (.int 0)) az)))) (ae (bb (ae (dC (.int 2)) (ae (dC (.int 0)) (ae (dC (.int 1)) az)))) (ae (bb (ae (dC (.int 2)) (ae (dC (.int 1)) (ae (dC (.int 0)) az)))) az))))))) (aB fw (aH (aa 1) (dC (.int 6))) (dC (.int 6)))))
 (ax (ba (ah 37) (fS HG))
 (ax (gD 22 23 (bb (ae (aN gA (ae (aa 5) (ae (aa 37) (ae (aa 9) (ae (aa 10) (ae (aa 3) (ae (aa 6) az))))))) (ae (fS yh) az))))
 (ax (Ec 24)
 (ax (ba (ah 25) (Fu zL))
 (ax (gJ (cI (aa 4)) (ah 12) wQ)
 (ax (ba (bx (ao (ah 30) (ao (ah 31) (ao (ah 32) bf)))) (bb (ae (fS C8) (ae lj (ae qs az)))))
 (ax (tn 32 (gJ (nA (aa 23)) (bx (ao (ah 7) (ao (ah 21) bf))) wR))
 (ax (j9 (iV (aS mG (aa 3) (eL az)) (iV (aS mG (fS C9) (eL az)) tm)) (ax (eB (dC (.bool false)))
 aT) aT)
 (ax (eB (mM eqZ (qr (aa 31)) (qr (aa 32))))
 aT)))))))))))))
def N3:=tH 1 55 CX
def pe:D:=a5 g0 (ae (fS (a9 (nA (aa 1)) [none,none,none,none,some 0] (bx (ao (ah 1) (ao (bx (ao (ah 2) (ao (ah 3) bf))) bf))) dp (aK (aB h_ (aB h_ (aH (aa 4) (aa 2)) (lO (aS xH (aa 3) (dC (.int 0))) (dC (.int 1)) (lN (dC (.int 1))))) (aB FO (dC (.int 100)) (aB gI (dC (.int 2)) (aa 1))))) (.list []))) az)
section
set_option backward.match.sparseCases true in
noncomputable def isStar:Expr->Bool
 | .Starred .. =>true
 |_=>false
theorem yo {e:Expr} {es:List Expr} (h:isStar e=false):kq e es:=λenv=>by cases e<;>first|exact rfl|exact Bool.noConfusion h
def noStar:List Expr->Bool
 |[]=>true
 |e::es=>!isStar e&&noStar es
theorem fM {e:Expr} {es:List Expr} (h:noStar (e::es)=true):kq e es/\noStar es=true:=
 have h:=aX.1 h
 ⟨yo (by simpa using h.1),h.2⟩
theorem vQ (pos:Pos) (env:Env):∀es,noStar es=true->(backTo pos (starEach es env)).any (·.1)=false/\(backTo pos (starEach es env)).all (λx=>!x.1)=true:=by
 intro es
 induction es with
 |nil=>exact λU=>⟨rfl,rfl⟩
 |cons e es ih=>
  intro h
  have h:=fM h
  rw[h.1]
  exact ih h.2
theorem gx {pos:Pos} {e:Expr} {es:List Expr} (h:noStar (e::es)=true):cK pos e es:=⟨(fM h).1,λenv=>(vQ pos env es (fM h).2).1⟩
theorem BF {pos:Pos} {es:List Expr} (h:noStar es=true) (hl:es.length.blt 30=true):N2 pos es:=λenv=>by
 rw[(vQ pos env es h).2]
 exact decide_eq_true (ay hl)
noncomputable def F6:Expr->Bool
 | .Call f as _ _=>(match f with
  | .Name .. =>!as.isEmpty
  |_=>false)
 |_=>true
theorem JD {o:Expr} {name:Str} (env:Env) (h:F6 o=true):attributeBase o name env (eval o env)=eval o env:=by
 cases o with
 |Call f as ks p=>cases f with
  |Name=>cases as with
   |nil=>cases h
   |cons=>rfl
  |_=>cases h
 |_=>rfl
theorem pW {o:Expr} {name:Str} {apos pos:Pos} (h:F6 o=true) (hl:(apos.endLine==pos.line)=true):qu o name apos pos:=⟨λenv=>JD env h,hl⟩
noncomputable def Vx:Expr->Bool
 | .UnaryOp .. | .BoolOp .. | .IfExp .. | .Compare .. =>false
 |_=>true
theorem P9 {e:Expr} (h:Vx e=true):∀env whole,isTrue e env whole=(do let v<-whole;standAt e.pos;holding [v] (truthy v)):=λenv whole=>by cases e<;>first|exact rfl|exact Bool.noConfusion h
noncomputable def xS:Expr->Bool
 | .Slice .. =>true
 |_=>false
theorem Hp {i:Expr} (h:xS i=false) (o x:Value):subscripted i false o x=operate [o,x] (getItem o x):=by cases i<;>first|exact rfl|exact Bool.noConfusion h
theorem Ug {i:Expr} (h:xS i=false) (ov iv new:Value):augStore i ov iv new=(do holding [new,ov,iv] (setItem ov iv new);release [new,ov,iv] [];pure .next):=by cases i<;>first|exact rfl|exact Bool.noConfusion h
noncomputable def wq:Expr->Bool
 | .Set .. =>true
 |_=>false
theorem mR {i:Expr} (h:wq i=false):gj i:=λenv x=>by cases i<;>first|exact rfl|exact Bool.noConfusion h
theorem G8 {op:CmpOp} {i:Expr} (h:wq i=false):behindInMarks op i=false:=by cases i<;>first|exact rfl|exact Bool.noConfusion h
noncomputable def C3:Expr->Bool
 | .ListComp .. | .SetComp .. | .DictComp .. =>true
 |_=>false
theorem Gi {v:Expr} (h:C3 v=false) (t:Option Expr) (n:Nat) (env:Env):swapsWith v t n env=pure false:=by cases v<;>first|exact rfl|exact Bool.noConfusion h
noncomputable def Vw:Expr->Bool
 | .Tuple .. =>true
 |_=>false
theorem W6 {v:Expr} (h:Vw v=false) {ts:List Expr} {k:Nat} {p:Pos} (env:Env):swappedStores [.Tuple ts k p] v env=pure none:=by cases v<;>first|exact rfl|exact Bool.noConfusion h
theorem Nv {e:Expr} {es:List Expr} (h:isStar e=false):∀env,assignEach (e::es) env=(false,assign e env)::assignEach es env:=λenv=>by cases e<;>first|exact rfl|exact Bool.noConfusion h
noncomputable def aaF (ts:List Expr):Nat:=(ts.head?.map (·.pos.line)).getD 0
set_option backward.match.sparseCases true in
def D6 (env:Env) (ts:List Expr):List Str:=ts.filterMap λ
  | .Name nm pos=>if env.kindOf nm==some .local &&pos.line==aaF ts then some nm else none
  |_=>none
def UX (ts vs:List Expr):Bool:=!(ts.length==2||ts.length==3)||vs.length !=ts.length||vs.any isStar
def swC (fs:FS) (ts vs:List Expr):Bool:=(D6 (fK fs) ts).length !=ts.length||(D6 (fK fs) ts).eraseDups.length !=(D6 (fK fs) ts).length
theorem Ny {fs:FS} {ts vs:List Expr} {k k':Nat} {p p':Pos}:swappedStores [.Tuple ts k p] (.Tuple vs k' p') (fK fs)=
  if(!(ts.length==2||ts.length==3)||vs.length !=ts.length||(fK fs).blockKind !=.function)=true then pure none else if vs.any isStar=true then pure none else if swC fs ts vs=true then pure none else
   if vs.all (foldedForSure 8)=true then pure none else if vs.all (constantsAlone 8)=true then unsupported "assign.tuple-of-constant-expressions:order-of-the-stores" else pure (some (D6 (fK fs) ts)):=rfl
set_option tactic.hygienic true in
theorem Qh {fs:FS} {ts vs:List Expr} {k k':Nat} {p p':Pos} (h:(UX ts vs||swC fs ts vs||vs.all (foldedForSure 8))=true):swappedStores [.Tuple ts k p] (.Tuple vs k' p') (fK fs)=pure none:=by
 rw[Ny]
 simp only[UX,oi]at h |-
 split
 ·rfl
 ·rename_i h1
  split
  ·rfl
  ·rename_i h2
   split
   ·rfl
   ·rename_i h3
    rw[ag]
    rcases h with((h|h)|h)|h
    ·exact absurd (.inl h) h1
    ·exact absurd h h2
    ·exact absurd h h3
    ·exact h
theorem GP {fs:FS} {ts vs:List Expr} {k k':Nat} {p p':Pos} (h:(UX ts vs||swC fs ts vs||vs.all (foldedForSure 8))=false) (h':vs.all (constantsAlone 8)=false):swappedStores [.Tuple ts k p] (.Tuple vs k' p') (fK fs)=pure (some (D6 (fK fs) ts)):=by
 rw[Ny]
 simp only[UX,Bool.or_eq_false_iff]at h
 rw[af (by rw[h.1.1.1.1,h.1.1.1.2];exact eW),af (by rw[h.1.1.2];exact eW),af (by rw[h.1.2];exact eW),af (by rw[h.2];exact eW),af (by rw[h'];exact eW)]
noncomputable def sEq (x y:Str):Bool:=x.cps.toList==y.cps.toList
theorem ik {x y:Str} (h:sEq x y=true):x=y:=by
 have :=ak S (eq_of_beq h)
 exact this
theorem GV {x y:Str} (h:sEq x y=false):x≠y:=λe=>by subst e;unfold sEq at h;rw[beq_self_eq_true]at h;cases h
def fT (x:Str):List (Str×NameKind)->Nat->Option (Nat×NameKind)
 |[],_=>none
 |y::r,n=>if sEq x y.1=true then some (n,y.2)else fT x r (n+1)
theorem lU {x:Str} {m:Nat} {k:NameKind}:∀(l:List (Str×NameKind)) (n:Nat),fT x l n=some (m,k)->l.lookup x=some k/\∃j,m=n+j/\l[j]?=some (x,k):=by
 intro l
 induction l with
 |nil=>exact λn h=>nomatch h
 |cons y r ih=>
  intro n h
  replace h:(if sEq x y.1=true then some (n,y.2)else fT x r (n+1))=some (m,k):=h
  obtain⟨z,w⟩:=y
  by_cases q:sEq x z=true
  ·rw[ag q]at h
   have :=ik q
   subst this
   cases h
   exact⟨by rw[bG,beq_self_eq_true],0,rfl,rfl⟩
  ·rw[af q]at h
   obtain⟨h1,j,h2,h3⟩:=ih _ h
   refine⟨?_,j+1,by rw[h2,iq,gq 1 j],h3⟩
   rw[bG,show(x==z)=false from bu.2 (GV (me.2 q))]
   exact h1
noncomputable def V5:ar:=[95,95,100,101,98,117,103,95,95]
noncomputable def V8:ar:=[95,95,99,108,97,115,115,100,105,99,116,95,95]
theorem su {x y:Str} {l:ar} (e:y=S l) (h:(x.cps.toList==l)=false):(x==y)=false:=bu.2 λk=>by
 subst k;subst e
 rw[show(S l).cps.toList=l from rfl,beq_self_eq_true]at h
 cases h
theorem TX:("__debug__":Str)=S V5:=by decide
theorem TZ:("__classdict__":Str)=S V8:=by decide
noncomputable def VM:ar:=[119,111,114,116,104]
def c5 (x:Str):Bool:=(!(x.cps.toList==V5)&&!(x.cps.toList==V8))&&!(x.cps.toList==VM)
theorem pq {x:Str} (h:c5 x=true):(x==("__debug__":Str))=false:=su TX (by simpa using(aX.1 (aX.1 h).1).1)
theorem EF {x:Str} (h:c5 x=true):(x==("__classdict__":Str))=false:=su TZ (by simpa using(aX.1 (aX.1 h).1).2)
theorem xm {x:Str} (h:c5 x=true):(x==lF)=false:=su (show lF=S VM from rfl) (by simpa using(aX.1 h).2)
variable{fs:FS}
theorem ip {x:Str} {k:Nat} {kd:NameKind} (h:fT x fs.names 0=some (k,kd)) (hp:c5 x=true):isName fs k x kd:=
 have w:=lU _ _ h
 ⟨⟨w.2.elim λj z=>by rw[z.1,cc];exact z.2,w.1⟩,pq hp⟩
def lh (fs:FS) (x:Str):Bool:=(match fT x fs.names 0 with|some (_,k)=>k==.globalImplicit|none=>false)&&c5 x
theorem dI {x:Str} (h:lh fs x=true):d6 fs x:=by
 have h:=aX.1 h
 match e:fT x fs.names 0,h with
 |some (k,kd),h=>exact⟨eq_of_beq h.1▸(lU _ _ e).1,pq h.2⟩
theorem R3 {x:Str} {l:List Str} (h:l.any (sEq x)=true):x∈l:=(qK.1 h).elim λy w=>ik w.2▸w.1
def Bi:List Str->Bool
 |[]=>true
 |x::l=>!l.any (sEq x)&&Bi l
theorem cJ:∀{l:List Str},Bi l=true->l.Nodup:=by
 intro l
 induction l with
 |nil=>exact λU=>gy
 |cons x l ih=>
  intro h
  have h:=aX.1 h
  refine fZ.2 ⟨λm=>?_,ih h.2⟩
  have :l.any (sEq x)=true:=qK.2 ⟨x,m,beq_self_eq_true _⟩
  rw[this]at h;exact nomatch h.1
def OB (fs:FS) (scope:Scope) (js:List (Option Nat)):Bool:=(scope.kind==.function&&!scope.isCoroutine)&&Bi (scope.names.map (·.1))&&jOk fs scope.names js&&(scope.names.all λx=>x.2 !=.free||fs.names.any λy=>y.1==x.1&&(y.2==.cell||y.2==.free))
theorem uD {scope:Scope} {js:List (Option Nat)} (h:OB fs scope js=true):nG fs scope js:=by
 unfold OB at h
 simp only[bp,mh]at h
 have nd:=cJ h.1.1.2
 exact⟨eq_of_beq h.1.1.1.1,h.1.1.1.2,nd,λx hx e=>nq nd (e▸hx),h.1.2,h.2⟩
def wx (fs:FS) (scope:Scope):List (Option Nat):=scope.names.map λx=>if x.2==.free then(fT x.1 fs.names 0).map (·.1)else none
end
set_option genSizeOf false
set_option genInjectivity false
section
structure AU (x:ar) (b:List Stmt×Scope) (n:Nat) where
 a:Addr
 fd:FuncData
 ok:hZ a fd b.1 n
 sc:fd.scope=b.2
 gl:G.gl (S x)=some (.ref a)
structure Wd where
 HM:G.bi (S [108,101,110])=some (.builtin "len")
 HN:G.bi (S [99,104,114])=some (.builtin "chr")
 HJ:G.bi (S [111,114,100])=some (.builtin "ord")
 HI:G.bi (S [115,117,109])=some (.builtin "sum")
 HL:G.bi (S [109,97,120])=some (.builtin "max")
 HO:G.bi (S [97,108,108])=some (.builtin "all")
 sE:G.bi (S [115,111,114,116,101,100])=some (.builtin "sorted")
 lH:G.bi (S [105,115,105,110,115,116,97,110,99,101])=some (.builtin "isinstance")
 vy:G.bi (S [114,97,110,103,101])=some (.type "range")
 rp:G.bi (S [101,110,117,109,101,114,97,116,101])=some (.type "enumerate")
 BO:G.bi (S [122,105,112])=some (.type "zip")
 t4:G.bi (S [108,105,115,116])=some (.type "list")
 qJ:G.bi (S [116,117,112,108,101])=some (.type "tuple")
 DR:G.bi (S [98,111,111,108])=some (.type "bool")
 DQ:G.bi (S [100,105,99,116])=some (.type "dict")
 Dg:Tok
 k4:G.gl (S [69,76,76,73,80,83,73,83,95,77,65,82,75,69,82])=some (.str (S [46,46,46]) Dg)
 aB1:Addr
 nB1:Nat
 xt:G.gl (S [98,49,95,115,101,116])=some (.ref aB1)
 b1:∀h,G.K.In h->h.SetOf (intKind G.prog G.w) aB1 jW nB1
 aB3:Addr
 NY:G.gl (S [98,51,95,101,120,99,101,112,116,105,111,110,115])=some (.ref aB3)
 b3s:(aB3==sysModules)=false
 b3:∀h,G.K.In h->∃F,h.MapOf (intKind G.prog G.w) aB3 F/\∀i,(match A7 i with|some y=>y.length<=16777216/\∃t,F i=some (.str (S y) t)|none=>F i=none)
 BR:Addr
 yz:FuncData
 okI:hZ BR yz HP.1 2
 nmI:yz.scope.names=[((Str.ofString "self"),NameKind.local),((Str.ofString "comp_select_list"),NameKind.local)]
 glC:G.gl (S [84,117,112,108,101,67,111,109,112])=some (.ref G.C)
 NO:keepIn G.K (.ref G.C)=true
 dz:AU [105,110,95,116,97,98,108,101,95,99,49,49] kY 1
 dU:AU [105,110,95,116,97,98,108,101,95,98,49] lI 1
 du:AU [109,97,112,95,116,97,98,108,101,95,98,51] kX 1
 mD:Addr
 p_:FuncData
 p6:hZ mD p_ sF.1 3
 vM:p_.scope=sF.2
 dX:AU [99,111,117,110,116,95,99,97,108,108,115] lJ 1
 dh:AU [97,100,100,95,99,97,108,108,101,114,115] lK 2
 b_:AU [95,101,108,108,105,112,115,105,115,95,109,97,116,99,104] iK 2
 cN:AU [95,108,97,119,95,112,114,111,100,117,99,116,115] jQ 1
 fk:AU [95,108,97,119,95,119,111,114,100] oR 1
 eH:AU [95,108,97,119,95,116,121,112,101,100] nr 2
 cC:AU [97,100,100,95,102,117,110,99,95,115,116,97,116,115] iZ 2
 fq:AU [95,108,97,119,95,114,101,97,100] oU 2
 fm:AU [95,108,97,119,95,119,97,110,116] oT 2
 fu:AU [95,108,97,119,95,100,111,119,110] oW 5
 ft:AU [95,108,97,119,95,104,101,108,100] oV 4
 eI:AU [95,108,97,119,95,114,117,108,101,115] nv 6
 wU:AU [108,97,119] ie 1
 ck:Eg BR mD
 bB:KO
 tb1:G.tb.1=62
 oY:dh.fd.code= .ref 62
 tl1:G.tl.1=187
 HC:wU.fd.code= .ref 187
theorem o4 (t:Tok) {p:Pt}:VR p (.str (S [46,46,46]) t) f_:=⟨ay rfl,t,rfl⟩
noncomputable def tf (x:Str) (l:ar):Bool:=x.cps.toList==l
theorem Hl {x:Str} {l:ar} (h:tf x l=true):x=S l:=(KN x).symm.trans (ak S (eq_of_beq h))
theorem lS {x:Str} {l:ar} {v:Value} (h:tf x l=true) (k:G.bi (S l)=some v):G.bi x=some v:=(ak G.bi (Hl h)).trans k
theorem CT {x:Str} {l:ar} {v:Value} (h:tf x l=true) (k:G.gl (S l)=some v):G.gl x=some v:=(ak G.gl (Hl h)).trans k
structure y8 where
 x:Str
 a:Addr
 fd:FuncData
 body:List Stmt
 n:Nat
 f:OZ
 l:Nat
 gl:G.gl x=some (.ref a)
 ok:hZ a fd body n
 sp:dQ l a f
structure BfE where
 x:Str
 i:String
 f:aj->aq->Option V
 bi:G.bi x=some (.builtin i)
 ok:mP (.builtin i) f
structure MtE where
 x:Str
 T:String
 i:String
 kd:aj->V->Bool
 f:aj->V->aq->Option (V×aj)
 m:uW T x i
 ty:zl T kd
 ok:fA i f
def findBy {α:Type} (nm:α->Str):List α->(x:Str)->Option {e:α//nm e=x}
 |[],_=>none
 |e::l,x=>if h:sEq (nm e) x=true then some ⟨e,ik h⟩else findBy nm l x
def bfs (W:Wd):List BfE:=[⟨S [108,101,110],"len",iN,W.HM,XM⟩,⟨S [99,104,114],"chr",A9,W.HN,XY⟩,⟨S [111,114,100],"ord",FZ,W.HJ,XC⟩,⟨S [115,117,109],"sum",g0,W.HI,Rp⟩,⟨S [109,97,120],"max",Px,W.HL,XI⟩,⟨S [97,108,108],"all",F2,W.HO,XZ⟩,⟨S [115,111,114,116,101,100],"sorted",BG,W.sE,LD⟩]
structure TfE where
 x:Str
 T:String
 f:aj->aq->Option V
 bi:G.bi x=some (.type T)
 ok:mP (.type T) f
def tfs (W:Wd):List TfE:=[⟨S [108,105,115,116],"list",zD,W.t4,RC⟩,⟨S [116,117,112,108,101],"tuple",zC,W.qJ,Ro⟩,⟨S [100,105,99,116],"dict",r5,W.DQ,LQ⟩]
def vF:=@PySem.F.plainAttrs_list
def lx:=@PySem.F.plainAttrs_str
def mts:List MtE:=[⟨"append","list","list.append",ry,fX,⟨⟨vF,PySem.F.slot_list_append⟩,PySem.F.type_list_append⟩,tyL,IH⟩,
 ⟨"extend","list","list.extend",ry,i6,⟨⟨vF,PySem.F.slot_list_extend⟩,PySem.F.type_list_extend⟩,tyL,IF⟩,
 ⟨"pop","list","list.pop",ry,D_,⟨⟨vF,PySem.F.slot_list_pop⟩,PySem.F.type_list_pop⟩,tyL,XB⟩,
 ⟨"get","dict","dict.get",xK,nT,⟨⟨PySem.F.plainAttrs_dict,PySem.F.slot_dict_get⟩,PySem.F.type_dict_get⟩,aaE,RH⟩,
 ⟨"join","str","str.join",nH,k_,⟨⟨lx,PySem.F.slot_str_join⟩,PySem.F.type_str_join⟩,M6,RD⟩,
 ⟨"upper","str","str.upper",nH,uR,⟨⟨lx,PySem.F.slot_str_upper⟩,PySem.F.type_str_upper⟩,M6,LC⟩,
 ⟨"lower","str","str.lower",nH,Bm,⟨⟨lx,PySem.F.slot_str_lower⟩,PySem.F.type_str_lower⟩,M6,LG⟩,
 ⟨"startswith","str","str.startswith",nH,yu,⟨⟨lx,PySem.F.slot_str_startswith⟩,PySem.F.type_str_startswith⟩,M6,ID⟩,
 ⟨"endswith","str","str.endswith",nH,CJ,⟨⟨lx,PySem.F.slot_str_endswith⟩,PySem.F.type_str_endswith⟩,M6,RQ⟩,
 ⟨"find","str","str.find",nH,CH,⟨⟨lx,PySem.F.slot_str_find⟩,PySem.F.type_str_find⟩,M6,RM⟩,
 ⟨"count","str","str.count",nH,rW,⟨⟨lx,PySem.F.slot_str_count⟩,PySem.F.type_str_count⟩,M6,LU⟩]
structure CmE where
 f:OZ
 l:Nat
 sp:∀W:Wd,dQ l W.mD f
structure LmE where
 d:D
 l:Nat
 hB:∀code,bX (qp code l) dB.2.1 d
 hD:zm d
structure Op where
 W:Wd
 lm:Option LmE
 fns:List y8
 cm:Option CmE
 lists:List Str
 live:List Str
 fz:List (Nat×Str)
abbrev RE (fs:FS) (e:Expr):=Option {d:D//bX fs e d}
abbrev RT (fs:FS) (e:Expr):=Option {d:DT//rO fs e d}
abbrev RAl (fs:FS) (op:BoolOp) (es:List Expr):=Option {d:DT//nY fs op es d}
abbrev REL (fs:FS) (es:List Expr):=Option {d:DL//pE fs es d}
abbrev RO (fs:FS) (e:Option Expr):=Option {d:DO//F7 fs e d}
abbrev RI (fs:FS) (dA e:Expr):=Option {d:DI//k8 fs dA e d}
abbrev RA (fs:FS) (e:Expr):=Option {d:DA//jJ fs e d}
abbrev RAs (fs:FS) (es:List Expr):=Option {d:Cw//w9 fs es d}
abbrev RF (fs:FS) (es:List Expr):=Option {d:DT//gF fs es d}
abbrev RS (fs:FS) (s:Stmt):=Option {d:DS//kh fs s d}
abbrev RB (fs:FS) (ss:List Stmt):=Option {d:DS//pR fs ss d}
abbrev RP (fs:FS) (l:List (Expr×Expr)):=Option {d:FJ//zP fs l d}
abbrev Nq (fs:FS):Prop:=(fs.names.map (·.1)).Nodup
structure GoR where
 E:(o:Op)->(fs:FS)->Nq fs->Bool->(e:Expr)->RE fs e
 S:(o:Op)->(fs:FS)->Nq fs->(s:Stmt)->RS fs s
def binOp:(op:Operator)->Option {f:V->V->Option V//g7 op f}
 | .Add=>some ⟨addW,G3⟩
 | .Sub=>some ⟨gI,Rr⟩
 | .Mult=>some ⟨h_,NG⟩
 | .FloorDiv=>some ⟨fL,LP⟩
 | .Mod=>some ⟨fw,Rz⟩
 | .Pow=>some ⟨FO,Rw⟩
 | .LShift=>some ⟨Vz,Rv⟩
 | .RShift=>some ⟨FN,Ru⟩
 | .BitAnd=>some ⟨KH,RU⟩
 |_=>none
def Yg:(op:Operator)->Option {f:V->V->Option V//pL op f}
 | .Add=>some ⟨uv,RG⟩
 | .Sub=>some ⟨gI,LM⟩
 |_=>none
def Og:(op:CmpOp)->Option {f:aj->V->V->Option Bool//dG op f}
 | .Eq=>some ⟨eqZ,XR⟩
 | .NotEq=>some ⟨mG,XE⟩
 | .Lt=>some ⟨ltV,XJ⟩
 | .Gt=>some ⟨xH,XO⟩
 | .LtE=>some ⟨rJ λa b=>decide (a<=b),abl⟩
 | .GtE=>some ⟨rJ λa b=>decide (a>=b),abn⟩
 | .IsNot=>some ⟨fy,LK⟩
 | .In=>some ⟨UB,okIn⟩
 | .NotIn=>some ⟨rV,LF⟩
 |_=>none
def CK (lists:List Str):Expr->Bool
 | .List .. =>true
 | .ListComp .. =>true
 | .IfExp _ a _ _=>CK lists a
 | .BinOp _ .Add y _=>CK lists y
 | .Call (.Name f _) _ _ _=>tf f [108,105,115,116]
 | .Subscript (.Name x _) (.Slice ..) _=>lists.any (sEq x)
 |_=>false
def VO:Expr->Bool
 | .Name x _=>tf x [98,49,95,115,101,116]
 |_=>false
theorem Vp {fs:FS} {m m':Str} {x:Expr} {apos pos:Pos} {as:List Expr} {d:D} (h:m=m') (r:bX fs (.Call (.Attribute x m' apos) as [] pos) d):bX fs (.Call (.Attribute x m apos) as [] pos) d:=h▸r
theorem atI {fs:FS} {m m':Str} {dA x:Expr} {apos pos:Pos} {as:List Expr} {d:DI} (h:m=m') (r:k8 fs dA (.Call (.Attribute x m' apos) as [] pos) d):k8 fs dA (.Call (.Attribute x m apos) as [] pos) d:=h▸r
theorem atT {fs:FS} {m m':Str} {x:Expr} {pos:Pos} {d:D} (h:m=m') (r:bX fs (.Attribute x m' pos) d):bX fs (.Attribute x m pos) d:=h▸r
theorem atD {fs:FS} {ks:List (Option Expr)} {vs:List Expr} {l:List (Expr×Expr)} {pos:Pos} {d:D} (h:ks=l.map (λp=>some p.1)/\vs=l.map (·.2)) (r:bX fs (.Dict (l.map λp=>some p.1) (l.map (·.2)) pos) d):bX fs (.Dict ks vs pos) d:=by rw[h.1,h.2];exact r
variable(o:Op) (g:GoR) (fs:FS) (nd:Nq fs)
def Hq (x:Str) (pos:Pos):RE fs (.Name x pos):=if hp:c5 x=true then(match h:fT x fs.names 0 with
 |some (k,.local)=>some ⟨aa k,aaU (ip h hp) (xm hp)⟩
 |some (k,.cell)=>some ⟨aa k,Xa (ip h hp)⟩
 |some (k,.free)=>some ⟨aa k,W' (ip h hp) (EF hp)⟩
 |_=>if hx:tf x [69,76,76,73,80,83,73,83,95,77,65,82,75,69,82]=true then if hg:lh fs x=true then some ⟨dC f_,Xj (CT hx o.W.k4) (o4 _) (dI hg)⟩else none else none)else none
def Ng:(es:List Expr)->REL fs es
 |[]=>some ⟨az,CD⟩
 |e::es=>if h:isStar e=false then(g.E o fs nd false e).bind λa=>(Ng es).map λb=>⟨ae a.1 b.1,uP a.2 b.2 (yo h)⟩else none
def goO:(e:Option Expr)->RO fs e
 |none=>some ⟨ti,rP0⟩
 |some e=>(g.E o fs nd false e).map λa=>⟨dP a.1,rP a.2⟩
def Nf:Nat->(e:Expr)->RT fs e
 |0,_=>none
 |n+1,.UnaryOp .Not x pos=>(Nf n x).map λa=>⟨CY a.1,Xc a.2⟩
 |n+1,.BoolOp .And es pos=>(List.rec (motive:=λes=>RAl fs .And es) (some ⟨pJ,Xx⟩) (λe U r=>(Nf n e).bind λa=>r.map λb=>⟨jt a.1 b.1,Xv a.2 b.2⟩) es).map λa=>⟨a.1,GY a.2⟩
 |n+1,.BoolOp .Or es pos=>(List.rec (motive:=λes=>RAl fs .Or es) (some ⟨tm,aa1⟩) (λe U r=>(Nf n e).bind λa=>r.map λb=>⟨iV a.1 b.1,aaZ a.2 b.2⟩) es).map λa=>⟨a.1,GY a.2⟩
 |n+1,.Compare x [op] [y] pos=>if VO y=true then none else if h:wq y=false then(g.E o fs nd false x).bind λa=>(g.E o fs nd false y).bind λb=>(Og op).map λf=>⟨aS f.1 a.1 b.1,Xr f.2 a.2 b.2 (G8 h)⟩else none
 |n+1,e=>if h:Vx e=true then(g.E o fs nd false e).map λa=>⟨nF a.1,rT a.2 (P9 h)⟩else none
def Ft:Nat->(e:Expr)->RA fs e
 |0,_=>none
 |n+1,.Name x pos=>if hp:c5 x=true then(match h:fT x fs.names 0 with
  |some (k,.local)=>some ⟨ah k,acg (ip h hp) nd⟩
  |some (k,.cell)=>if hw:fs.wrt.any (sEq x)=true then some ⟨ah k,aaz (ip h hp) nd (R3 hw)⟩else none
  |_=>none)else none
 |n+1,.Tuple es k pos=>(List.rec (motive:=λes=>RAs fs es) (some ⟨bf,Wb⟩) (λe es r=>if h:isStar e=false then(Ft n e).bind λa=>r.map λb=>⟨ao a.1 b.1,Oy a.2 b.2 (Nv h)⟩else none) es).map λa=>⟨bx a.1,ach a.2⟩
 |n+1,_=>none
def Vg:(es:List Expr)->RF fs es
 |[]=>some ⟨dp,aa9⟩
 |[e]=>(Nf o g fs nd 60 e).map λa=>⟨a.1,aa8 a.2⟩
 |_=>none
def VW (dA e:Expr):RI fs dA e:=(g.E o fs nd false e).map λa=>⟨cI a.1,Xi a.2⟩
def abY (elts:List Expr) (kt:Nat) (tp:Pos) (x:Str) (np:Pos) (as:List Expr) (pos:Pos):RI fs (.Tuple elts kt tp) (.Call (.Name x np) as [] pos):=
 if hg:lh fs x=true then(match as with
  |[a]=>if hn:noStar [a]=true then if hx:tf x [101,110,117,109,101,114,97,116,101]=true then(g.E o fs nd false a).map λa=>⟨nA a.1,Xn (lS hx o.W.rp) a.2 (dI hg) (gx hn)⟩else none else none
  |[a,b]=>if hn:noStar [a,b]=true then if hx:tf x [122,105,112]=true then(g.E o fs nd false a).bind λa=>(g.E o fs nd false b).map λb=>⟨Kz (ae a.1 (ae b.1 az)),aaT (lS hx o.W.BO) a.2 b.2 (dI hg) (gx hn) (fM (fM hn).2).1⟩else none else none
  |_=>none)else none
def UJ:(dA e:Expr)->RI fs dA e
 |dA,.Call (.Name x np) (a::as) [] pos=>
  if hx:tf x [114,97,110,103,101]=true then if hg:lh fs x=true then if hn:noStar (a::as)=true then(Ng o g fs nd (a::as)).map λb=>⟨cZ b.1,Q8 (lS hx o.W.vy) b.2 (dI hg) (gx hn)⟩else none else none
  else if tf x [101,110,117,109,101,114,97,116,101]||tf x [122,105,112]then(match dA with
   | .Tuple elts kt tp=>abY o g fs nd elts kt tp x np (a::as) pos
   |_=>none)
  else VW o g fs nd dA (.Call (.Name x np) (a::as) [] pos)
 |dA,.Call (.Attribute x m apos) [] [] pos=>if ha:(F6 x&&apos.endLine==pos.line)=true then(g.E o fs nd false x).bind λa=>
   if hm:sEq m "items"=true then(match dA with
    | .Tuple elts kt tp=>some ⟨kB a.1,atI (ik hm) (Ra a.2 (pW (aX.1 ha).1 (aX.1 ha).2))⟩
    |_=>none)
   else if hm:sEq m "values"=true then some ⟨tV a.1,atI (ik hm) (Lo a.2 (pW (aX.1 ha).1 (aX.1 ha).2))⟩else none else none
 |dA,e=>VW o g fs nd dA e
def goP:(l:List (Expr×Expr))->RP fs l
 |[]=>some ⟨uq,aaY⟩
 |(k,v)::l=>(g.E o fs nd false k).bind λa=>(g.E o fs nd false v).bind λb=>(goP l).map λc=>⟨mL a.1 b.1 c.1,aaX a.2 b.2 c.2⟩
theorem gE {fs:FS} {scope:Scope} {js:List (Option Nat)} (h:OB fs scope js=true):Nq (iL fs scope):=T7 (uD h).nd
noncomputable def VC:Expr->Bool
 | .BinOp (.List ..) .Mult _ _=>true
 |_=>false
def abW (m:Bool) (elt dA iter:Expr) (ifs:List Expr) (scope:Scope) (pos:Pos):RE fs (.ListComp elt [⟨dA,iter,ifs,0⟩] scope pos):=
 if h:OB fs scope (wx fs scope)=true then if hs:wq iter=false then(UJ o g fs nd dA iter).bind λi=>(Ft (iL fs scope) (gE h) 9 dA).bind λa=>(Vg o g (iL fs scope) (gE h) ifs).bind λt=>(g.E {o with live:=[]} (iL fs scope) (gE h) (VC elt) elt).map λe=>
  if m then⟨Fu (a9 i.1 (wx fs scope) a.1 t.1 (aK e.1) (.list [])),aa5 (uD h) i.2 a.2 t.2 e.2 (mR hs)⟩else⟨fS (a9 i.1 (wx fs scope) a.1 t.1 (aK e.1) (.list [])),rLC (uD h) i.2 a.2 t.2 e.2 (mR hs)⟩else none else none
def ZN (elt t0 i0:Expr) (f0:List Expr) (t1 i1:Expr) (f1:List Expr) (scope:Scope) (pos:Pos):RE fs (.ListComp elt [⟨t0,i0,f0,0⟩,⟨t1,i1,f1,0⟩] scope pos):=
 if h:OB fs scope (wx fs scope)=true then if hs:wq i0=false then if JO:wq i1=false then(UJ o g fs nd t0 i0).bind λi=>(Ft (iL fs scope) (gE h) 9 t0).bind λa=>(Vg o g (iL fs scope) (gE h) f0).bind λt=>(UJ {o with live:=[]} g (iL fs scope) (gE h) t1 i1).bind λi'=>(Ft (iL fs scope) (gE h) 9 t1).bind λa'=>(Vg o g (iL fs scope) (gE h) f1).bind λt'=>(g.E {o with live:=[]} (iL fs scope) (gE h) false elt).map λe=>
  ⟨fS (a9 i.1 (wx fs scope) a.1 t.1 (lq i'.1 a'.1 t'.1 (aK e.1)) (.list [])),aa6 (uD h) i.2 a.2 t.2 i'.2 a'.2 t'.2 e.2 (mR hs) (mR JO)⟩else none else none else none
def abZ (k v dA iter:Expr) (ifs:List Expr) (scope:Scope) (pos:Pos):RE fs (.DictComp k v [⟨dA,iter,ifs,0⟩] scope pos):=
 if h:OB fs scope (wx fs scope)=true then if hs:wq iter=false then(UJ o g fs nd dA iter).bind λi=>(Ft (iL fs scope) (gE h) 9 dA).bind λa=>(Vg o g (iL fs scope) (gE h) ifs).bind λt=>(g.E {o with live:=[]} (iL fs scope) (gE h) false k).bind λk=>(g.E {o with live:=[]} (iL fs scope) (gE h) false v).map λv=>
  ⟨fS (a9 i.1 (wx fs scope) a.1 t.1 (jY k.1 v.1) (.dict [] [])),rDC (uD h) i.2 a.2 t.2 k.2 v.2 (mR hs)⟩else none else none
def Mo (elt dA iter:Expr) (ifs:List Expr) (scope:Scope) (pos:Pos) (x:Str) (px y9:Pos) (dx:{d:DA//jJ fs (.Name x px) d}) (hw:swapsWith (.ListComp elt [⟨dA,iter,ifs,0⟩] scope pos) (some (.Name x px)) y9.line (fK fs)=pure true):RS fs (.Assign [.Name x px] (.ListComp elt [⟨dA,iter,ifs,0⟩] scope pos) y9):=
 if h:OB fs scope (wx fs scope)=true then if hs:wq iter=false then(UJ o g fs nd dA iter).bind λi=>(Ft (iL fs scope) (gE h) 9 dA).bind λa=>(Vg o g (iL fs scope) (gE h) ifs).bind λt=>(g.E {o with live:=[]} (iL fs scope) (gE h) (VC elt) elt).map λe=>
  if o.live.any (sEq x)then⟨ba dx.1 (Fu (a9 i.1 (wx fs scope) a.1 t.1 (aK e.1) (.list []))),Lq (uD h) i.2 a.2 t.2 e.2 dx.2 hw (mR hs)⟩else⟨ba dx.1 (fS (a9 i.1 (wx fs scope) a.1 t.1 (aK e.1) (.list []))),Q7 (uD h) i.2 a.2 t.2 e.2 dx.2 hw (mR hs)⟩else none else none
def Pw (scope:Scope) (xi xj:Str):Bool:=(!scope.isCoroutine&&scope.kind==.function)&&((scope.names.all λy=>y.2 !=.free&&y.2 !=.cell)&&(fT ".0" scope.names 0).any (·.2==.local)&&((fT xi scope.names 0).any (·.2==.local)&&(fT xj scope.names 0).any (·.2==.local)))&&(!sEq xi xj&&(c5 xi&&c5 xj))
theorem Bn {x:Str} {names:List (Str×NameKind)} (h:(fT x names 0).any (·.2==.local)=true):names.lookup x=some .local :=by
 match e:fT x names 0,h with
 |some (k,kd),h=>exact eq_of_beq (show(kd==.local)=true from h)▸(lU _ _ e).1
theorem Tv {scope:Scope} {xi xj:Str} (h:Pw scope xi xj=true):Dc scope xi xj:=by
 unfold Pw at h
 simp only[bp,mh]at h
 obtain⟨⟨⟨a,b⟩,⟨⟨d,e⟩,f,g⟩⟩,i,j,k⟩:=h
 exact⟨a,d,Bn e,Bn f,Bn g,GV i,eq_of_beq b,pq j,pq k⟩
noncomputable def refOf:Value->Option Addr
 | .ref a=>some a
 |_=>none
theorem Ir {v:Value} {a:Addr} (h:refOf v=some a):v= .ref a:=by cases v<;>cases h<;>rfl
def Tp (hc:fs.code= .ref G.tb.1) (f:Str) (np:Pos) (xi xj:Str) (p1 p2 p3 pa pb pt:Pos) (kt:Nat) (scope:Scope) (wy pos:Pos) (iter:Expr):RE fs (.Call (.Name f np) [.GeneratorExp (.BinOp (.Name xi p1) .Add (.Name xj p2) p3) [⟨.Tuple [.Name xi pa,.Name xj pb] kt pt,iter,[],0⟩] scope wy] [] pos):=match iter with
 | .Call (.Name zx znp) [a,b] [] Kg=>if hf:tf f [116,117,112,108,101]=true then if hg:lh fs f=true then if hz:tf zx [122,105,112]=true then if hzg:lh fs zx=true then if hn:noStar [a,b]=true then if hs:Pw scope xi xj=true then(g.E o fs nd false a).bind λd=>(g.E o fs nd false b).map λd'=>
   ⟨tW (ae d.1 (ae d'.1 az)),Lp (lS hf o.W.qJ) (lS hz o.W.BO) o.W.bB hc d.2 d'.2 (Tv hs) (dI hg) (dI hzg) (gx hn) (fM (fM hn).2).1⟩else none else none else none else none else none else none
 |_=>none
def Tq (hc:fs.code= .ref G.tb.1) (f:Str) (np:Pos) (elt:Expr) (cl:Comprehension) (scope:Scope) (wy pos:Pos):RE fs (.Call (.Name f np) [.GeneratorExp elt [cl] scope wy] [] pos):=match elt with
 | .BinOp l op r p3=>match l with
  | .Name xi p1=>match r with
   | .Name xj p2=>match op,cl with
    | .Add,⟨t,iter,[],0⟩=>match t with
     | .Tuple es kt pt=>match es with
      |[a,b]=>match a with
       | .Name yi pa=>match b with
        | .Name yj pb=>if hi:sEq xi yi=true then if hj:sEq xj yj=true then ik hi▸ik hj▸Tp o g fs nd hc f np xi xj p1 p2 p3 pa pb pt kt scope wy pos iter else none else none
        |_=>none
       |_=>none
      |_=>none
     |_=>none
    |_,_=>none
   |_=>none
  |_=>none
 |_=>none
def ZP (f:Str) (np:Pos) (a:Expr) (pos:Pos):RE fs (.Call (.Name f np) [a] [] pos):=match h:refOf fs.code with
 |some v=>if hv:v=62 then(match a with
  | .GeneratorExp elt [cl] scope wy=>Tq o g fs nd ((Ir h).trans (ak Value.ref (hv.trans o.W.tb1.symm))) f np elt cl scope wy pos
  |_=>none)else none
 |none=>none
noncomputable def Ye:Expr->Bool
 | .GeneratorExp .. =>true
 |_=>false
def Kv (f:Str) (np:Pos) (a:Expr) (as:List Expr) (pos:Pos) (hg:lh fs f=true) (hn:noStar (a::as)=true):RE fs (.Call (.Name f np) (a::as) [] pos):=
 (Ng o g fs nd (a::as)).bind λb=>(findBy TfE.x (tfs o.W) f).map λe=>⟨a5 e.1.f b.1,Lr ((ak G.bi e.2).symm.trans e.1.bi) e.1.ok b.2 (dI hg) (gx hn)⟩
theorem atL {fs:FS} {f:Str} {np pos apos nQ:Pos} {x:Expr} {m m':Str} {d:D} (h:m=m') (r:bX fs (.Call (.Name f np) [.Call (.Attribute x m' apos) [] [] nQ] [] pos) d):bX fs (.Call (.Name f np) [.Call (.Attribute x m apos) [] [] nQ] [] pos) d:=h▸r
def To (f:Str) (np:Pos) (a:Expr) (pos:Pos) (hf:tf f [108,105,115,116]=true) (hg:lh fs f=true) (hn:noStar [a]=true):RE fs (.Call (.Name f np) [a] [] pos):=match a with
 | .Call (.Name y Uy) (e::es) [] nQ=>if hy:tf y [114,97,110,103,101]=true then(if hg1:lh fs y=true then if hn1:noStar (e::es)=true then if FE:noStar [.Call (.Name y Uy) (e::es) [] nQ]=true then(Ng o g fs nd (e::es)).map λd=>⟨CZ d.1,Xf (lS hf o.W.t4) (lS hy o.W.vy) d.2 (dI hg) (dI hg1) (gx hn1) (gx FE)⟩else none else none else none)
   else if FE:noStar [.Call (.Name y Uy) (e::es) [] nQ]=true then Kv o g fs nd f np (.Call (.Name y Uy) (e::es) [] nQ) [] pos hg FE else none
 | .Call (.Attribute x m apos) [] [] nQ=>if hm:sEq m "items"=true then if ha:(F6 x&&apos.endLine==nQ.line)=true then if FE:noStar [.Call (.Attribute x "items" apos) [] [] nQ]=true then(g.E o fs nd false x).map λd=>⟨qr d.1,atL (ik hm) (Xh (lS hf o.W.t4) d.2 (pW (aX.1 ha).1 (aX.1 ha).2) (dI hg) (gx FE))⟩else none else none else none
 |a=>if FE:noStar [a]=true then Kv o g fs nd f np a [] pos hg FE else none
theorem atK {fs:FS} {f kn wn:Str} {np wp kp pos:Pos} {e:Expr} {d:D} (h:kn=Str.ofString "key") (hw:wn=lF) (r:bX fs (.Call (.Name f np) [e] [⟨some (Str.ofString "key"),.Name lF wp,kp⟩] pos) d):bX fs (.Call (.Name f np) [e] [⟨some kn,.Name wn wp,kp⟩] pos) d:=by subst h;subst hw;exact r
def ZO (f:Str) (np:Pos) (e:Expr) (kn wn:Str) (wp kp pos:Pos):RE fs (.Call (.Name f np) [e] [⟨some kn,.Name wn wp,kp⟩] pos):=o.lm.bind λlm=>
 if hf:tf f [115,111,114,116,101,100]=true then if hg:lh fs f=true then if hk:sEq kn "key"=true then if hw:sEq wn lF=true then if hn:noStar [e]=true then if hl:(lm.l+2).ble fs.lv=true then(match hW:fT lF fs.names 0,hK:fT sQ fs.names 0 with
  |some (k,.local),some (kk,.cell)=>(g.E o fs nd false e).map λd=>⟨yf k kk d.1,atK (ik hk) (ik hw) (Q5 (lS hf o.W.sE) d.2 (have z:=lU _ _ hW;⟨z.2.elim λj y=>by rw[y.1,cc];exact y.2,z.1⟩) ((lU _ _ hK).2.elim λj y=>by rw[y.1,cc];exact y.2) (ay hl) lm.hB lm.hD (dI hg) (gx hn))⟩
  |_,_=>none)else none else none else none else none else none else none
def Mp (f:Str) (np:Pos) (as:List Expr) (pos:Pos):RE fs (.Call (.Name f np) as [] pos):=
 if hg:lh fs f=true then(match as with
  |[]=>none
  |a::as=>if hn:noStar (a::as)=true then
   if hf:tf f [108,105,115,116]=true then(match as with
    |[]=>To o g fs nd f np a pos hf hg hn
    |_=>none)
   else if hf:tf f [105,115,105,110,115,116,97,110,99,101]=true then(match as with
    |[.Name t tp]=>(g.E o fs nd false a).bind λb=>if ht:lh fs t=true then
      if hb:tf t [98,111,111,108]=true then some ⟨OV isBool b.1,rIs (lS hf o.W.lH) (lS hb o.W.DR) IE b.2 (dI hg) (dI ht) (fM hn).1⟩
      else if hb:tf t [116,117,112,108,101]=true then some ⟨OV isTup b.1,rIs (lS hf o.W.lH) (lS hb o.W.qJ) LH b.2 (dI hg) (dI ht) (fM hn).1⟩else none else none
    |_=>none)
   else if tf f [116,117,112,108,101]then(match as with
    |[]=>if Ye a then ZP o g fs nd f np a pos else Kv o g fs nd f np a [] pos hg hn
    |_=>none)
   else if tf f [100,105,99,116]then Kv o g fs nd f np a as pos hg hn
   else if hf:tf f [84,117,112,108,101,67,111,109,112]=true then(match as with
    |[]=>if hl:(1).ble fs.lv=true then(g.E o fs nd false a).map λb=>⟨OU b.1,rMk (l:=0) (CT hf o.W.glC) o.W.ck o.W.okI o.W.nmI (ay hl) b.2 o.W.NO (dI hg) (fM hn).1⟩else none
    |_=>none)
   else(Ng o g fs nd (a::as)).bind λb=>match findBy BfE.x (bfs o.W) f with
    |some e=>some ⟨a5 e.1.f b.1,Rf ((ak G.bi e.2).symm.trans e.1.bi) e.1.ok b.2 (dI hg) (gx hn)⟩
    |none=>(findBy y8.x o.fns f).bind λe=>if hl:(e.1.l+1).ble fs.lv=true then some ⟨aN e.1.f b.1,Rd ((ak G.gl e.2).symm.trans e.1.gl) e.1.ok e.1.sp (ay hl) b.2 (dI hg) (gx hn)⟩else none
   else none)else none
def Mr (x:Str) (np:Pos) (m:Str) (apos:Pos) (a:Expr) (pos:Pos):RE fs (.Call (.Attribute (.Name x np) m apos) [a] [] pos):=
 if hx:tf x [98,51,95,101,120,99,101,112,116,105,111,110,115]=true then if hm:sEq m "get"=true then if hg:lh fs x=true then if hn:noStar [a]=true then if hl:(apos.endLine==pos.line)=true then(g.E o fs nd false a).map λb=>
  ⟨C1 A7 b.1,Vp (ik hm) (Xk (CT hx o.W.NY) o.W.b3s o.W.b3 b.2 (dI hg) hl (fM hn).1)⟩else none else none else none else none else none
def yw (x:Expr) (m:Str) (apos:Pos) (as:List Expr) (pos:Pos):RE fs (.Call (.Attribute x m apos) as [] pos):=
 if ha:(F6 x&&apos.endLine==pos.line)=true then(g.E o fs nd false x).bind λb=>match as with
  |[]=>(findBy MtE.x mts m).map λe=>⟨bC e.1.kd e.1.f b.1 az,Vp e.2.symm (Q_ e.1.m e.1.ty e.1.ok b.2 (pW (aX.1 ha).1 (aX.1 ha).2))⟩
  |a::as=>if hn:noStar (a::as)=true then if hl:(a::as).length.blt 30=true then(Ng o g fs nd (a::as)).bind λd=>
    if hm:sEq m "compare"=true then o.cm.bind λe=>if hv:(e.l+1).ble fs.lv=true then some ⟨uJ e.f b.1 d.1,Vp (ik hm) (Xs o.W.ck o.W.p6 (e.sp o.W) (ay hv) b.2 d.2 (pW (aX.1 ha).1 (aX.1 ha).2) (BF hn hl) (fM hn).1)⟩else none
    else if hm:sEq m "split"=true then some ⟨u3 nH uS b.1 d.1,Vp (ik hm) (Q9 ⟨⟨lx,PySem.F.slot_str_split⟩,PySem.F.type_str_split⟩ M6 Iu b.2 d.2 (pW (aX.1 ha).1 (aX.1 ha).2) (BF hn hl) (gx hn))⟩
    else(findBy MtE.x mts m).map λe=>⟨bC e.1.kd e.1.f b.1 d.1,Vp e.2.symm (Xe e.1.m e.1.ty e.1.ok b.2 d.2 (pW (aX.1 ha).1 (aX.1 ha).2) (BF hn hl) (gx hn))⟩else none else none
 else none
def ZS (m:Bool) (x y:Expr) (pos:Pos) (op:Operator):RE fs (.BinOp x op y pos):=
 (g.E o fs nd false x).bind λa=>(g.E o fs nd false y).bind λb=>match op with
  | .Add=>if CK o.lists y=true then if m then some ⟨w6 lG a.1 b.1,ND Dn a.2 b.2⟩else some ⟨jr lG a.1 b.1,NF Dn a.2 b.2⟩else some ⟨aB addW a.1 b.1,O6 G3 a.2 b.2⟩
  | .Mult=>if CK o.lists x=true then if m then some ⟨w6 mulL a.1 b.1,ND Dm a.2 b.2⟩else some ⟨jr mulL a.1 b.1,NF Dm a.2 b.2⟩else some ⟨aB h_ a.1 b.1,O6 NG a.2 b.2⟩
  |op=>(binOp op).map λf=>⟨aB f.1 a.1 b.1,O6 f.2 a.2 b.2⟩
def ZR (x:Expr) (op:CmpOp) (y:Expr) (pos:Pos):RE fs (.Compare x [op] [y] pos):=
 (g.E o fs nd false x).bind λa=>if VO y then(match op,y with
  | .In,.Name n np=>if hx:tf n [98,49,95,115,101,116]=true then if hg:lh fs n=true then some ⟨yg jW a.1,Rb (CT hx o.W.xt) o.W.b1 a.2 (dI hg) rfl⟩else none else none
  |_,_=>none)
 else if h:wq y=false then(g.E o fs nd false y).bind λb=>(Og op).map λf=>⟨mM f.1 a.1 b.1,abf f.2 a.2 b.2 (G8 h)⟩else none
noncomputable def pairs:(ks:List (Option Expr))->(vs:List Expr)->Option {l:List (Expr×Expr)//ks=l.map (λp=>some p.1)/\vs=l.map (·.2)}
 |[],[]=>some ⟨[],rfl,rfl⟩
 |some k::ks,v::vs=>(pairs ks vs).map λl=>⟨(k,v)::l.1,ak (some k::·) l.2.1,ak (v::·) l.2.2⟩
 |_,_=>none
def Tr (m:Bool) (ks:List (Option Expr)) (vs:List Expr) (pos:Pos):RE fs (.Dict ks vs pos):=match ks,vs with
 |[],[]=>if m then some ⟨qs,Xo⟩else some ⟨lj,Xq⟩
 |ks,vs=>(pairs ks vs).bind λl=>if h0:l.1.isEmpty=false then if hn:l.1.length.ble 15=true then(goP o g fs nd l.1).map λd=>⟨nU d.1,atD l.2 (Xp d.2 (λe=>by rw[e]at h0;exact Bool.noConfusion h0) (ay hn))⟩else none else none
def ZK (x i:Expr) (pos:Pos):RE fs (.Subscript x i pos):=(g.E o fs nd false x).bind λa=>match i with
 | .Slice none none (some s) sp=>(g.E o fs nd false s).map λb=>⟨w5 a.1 b.1,Xb a.2 b.2⟩
 | .Slice lo hi none sp=>(goO o g fs nd lo).bind λl=>(goO o g fs nd hi).map λh=>⟨cS a.1 l.1 h.1,Q6 a.2 l.2 h.2⟩
 |i=>if h:xS i=false then(g.E o fs nd false i).map λb=>⟨aH a.1 b.1,aba a.2 b.2 (λU U U=>Hp h _ _) λU U U=>Hp h _ _⟩else none
def abV (op:UnaryOp) (x:Expr) (pos:Pos):RE fs (.UnaryOp op x pos):=match op with
 | .USub=>(g.E o fs nd false x).map λa=>⟨lN a.1,aa2 a.2⟩
 |_=>none
def Ts (x:Expr) (ops:List CmpOp) (ys:List Expr) (pos:Pos):RE fs (.Compare x ops ys pos):=match ops,ys with
 |[op],[y]=>ZR o g fs nd x op y pos
 |_,_=>none
def ab0 (op:BoolOp) (xs:List Expr) (pos:Pos):RE fs (.BoolOp op xs pos):=match op,xs with
 | .And,[x,y]=>(g.E o fs nd false x).bind λa=>(g.E o fs nd false y).map λb=>⟨Oc a.1 b.1,Xw a.2 b.2⟩
 | .Or,[x,y]=>(g.E o fs nd false x).bind λa=>(g.E o fs nd false y).map λb=>⟨PC a.1 b.1,aa0 a.2 b.2⟩
 |_,_=>none
def ZT (x:Expr) (a:Str) (pos:Pos):RE fs (.Attribute x a pos):=match x with
 | .Name x np=>if h:sEq a "comp_select_list"=true then(Hq o fs x np).map λb=>⟨KA b.1,atT (ik h) (aaW o.W.ck b.2)⟩else none
 |_=>none
def ZM (m:Bool) (elt:Expr) (cs:List Comprehension) (scope:Scope) (pos:Pos):RE fs (.ListComp elt cs scope pos):=match cs with
 |[⟨dA,iter,ifs,0⟩]=>abW o g fs nd m elt dA iter ifs scope pos
 |[⟨t0,i0,f0,0⟩,⟨t1,i1,f1,0⟩]=>ZN o g fs nd elt t0 i0 f0 t1 i1 f1 scope pos
 |_=>none
def ZQ (k v:Expr) (cs:List Comprehension) (scope:Scope) (pos:Pos):RE fs (.DictComp k v cs scope pos):=match cs with
 |[⟨dA,iter,ifs,0⟩]=>abZ o g fs nd k v dA iter ifs scope pos
 |_=>none
def abX (f:Str) (np:Pos) (e:Expr) (kn:Str) (v:Expr) (kp pos:Pos):RE fs (.Call (.Name f np) [e] [⟨some kn,v,kp⟩] pos):=match v with
 | .Name wn wp=>ZO o g fs nd f np e kn wn wp kp pos
 |_=>none
def Ms (f:Str) (np:Pos) (as:List Expr) (ks:List Keyword) (pos:Pos):RE fs (.Call (.Name f np) as ks pos):=match as,ks with
 |as,[]=>Mp o g fs nd f np as pos
 |[e],[⟨some kn,v,kp⟩]=>abX o g fs nd f np e kn v kp pos
 |_,_=>none
def Mq (x:Expr) (m:Str) (apos:Pos) (a:Expr) (pos:Pos):RE fs (.Call (.Attribute x m apos) [a] [] pos):=match x with
 | .Name x np=>(Mr o g fs nd x np m apos a pos).orElse λU=>yw o g fs nd (.Name x np) m apos [a] pos
 |x=>yw o g fs nd x m apos [a] pos
def Tt (f:Expr) (as:List Expr) (ks:List Keyword) (pos:Pos):RE fs (.Call f as ks pos):=match f with
 | .Name f np=>Ms o g fs nd f np as ks pos
 | .Attribute x m apos=>match as,ks with
  |[a],[]=>Mq o g fs nd x m apos a pos
  |as,[]=>yw o g fs nd x m apos as pos
  |_,_=>none
 |_=>none
def NB (m:Bool):(e:Expr)->RE fs e
 | .Constant c k pos=>match c with
  | .int i=>some ⟨dC (.int i),aa7⟩
  | .str x=>if h:x.cps.toList.length.ble 16777216=true then some ⟨dC (.str x.cps.toList),aaV (KN x).symm (ay h)⟩else none
  | .bool b=>some ⟨dC (.bool b),Xu⟩
  | .none=>some ⟨dC .none,Xd⟩
  |_=>none
 | .Name x pos=>Hq o fs x pos
 | .BinOp x op y pos=>ZS o g fs nd m x y pos op
 | .UnaryOp op x pos=>abV o g fs nd op x pos
 | .Compare x ops ys pos=>Ts o g fs nd x ops ys pos
 | .BoolOp op xs pos=>ab0 o g fs nd op xs pos
 | .IfExp t a b pos=>(Nf o g fs nd 60 t).bind λt=>(g.E o fs nd false a).bind λa=>(g.E o fs nd false b).map λb=>⟨lO t.1 a.1 b.1,Rc t.2 a.2 b.2⟩
 | .Tuple es k pos=>(Ng o g fs nd es).map λa=>⟨bb a.1,Ki a.2⟩
 | .List es pos=>(Ng o g fs nd es).map λa=>if m then⟨iS a.1,Xg a.2⟩else⟨eL a.1,aa3 a.2⟩
 | .Dict ks vs pos=>Tr o g fs nd m ks vs pos
 | .Subscript x i pos=>ZK o g fs nd x i pos
 | .Attribute x a pos=>ZT o fs x a pos
 | .ListComp elt cs scope pos=>ZM o g fs nd m elt cs scope pos
 | .DictComp k v cs scope pos=>ZQ o g fs nd k v cs scope pos
 | .Call f as ks pos=>Tt o g fs nd f as ks pos
 |_=>none
end
section
theorem Qi {v x i:Expr} {sp:Pos} (n:Nat) (env:Env):swapsWith v (some (.Subscript x i sp)) n env=pure false:=by cases v<;>exact rfl
def swV (fs:FS) (x:Str) (p:Pos) (scope:Scope) (cp:Pos):Bool:=(fK fs).blockKind==.function&&(fK fs).kindOf x==some .local &&p.line==cp.line&&!(scope.names.any λ(n,k)=>n==x&&(k==.local ||k==.cell))
theorem Nz {fs:FS} {x:Str} {p cp:Pos} {scope:Scope} {b:Bool} {elt:Expr} {gs:List Comprehension} (h:swV fs x p scope cp=b) (n:Nat):swapsWith (.ListComp elt gs scope cp) (some (.Name x p)) n (fK fs)=pure b:=h▸rfl
theorem WT {fs:FS} {x:Str} {p cp:Pos} {scope:Scope} {b:Bool} {k v:Expr} {gs:List Comprehension} (h:swV fs x p scope cp=b) (n:Nat):swapsWith (.DictComp k v gs scope cp) (some (.Name x p)) n (fK fs)=pure b:=h▸rfl
theorem yp {x:Str} {p:Pos} {v:Expr} (env:Env):swappedStores [.Name x p] v env=pure none:=by cases v<;>exact rfl
variable(o:Op) (g:GoR) (fs:FS) (nd:Nq fs)
def Nh:(ss:List Stmt)->RB fs ss
 |[]=>some ⟨aT,abd⟩
 |s::ss=>(g.S o fs nd s).bind λa=>(Nh ss).map λb=>⟨ax a.1 b.1,O5 a.2 b.2⟩
def isLive (o:Op):Expr->Bool
 | .Name x _=>o.live.any (sEq x)
 |_=>false
def VV:List Expr->(es:List Expr)->REL fs es
 |_,[]=>some ⟨az,CD⟩
 |[],_=>none
 |t::ts,e::es=>if h:isStar e=false then(g.E o fs nd (isLive o t) e).bind λa=>(VV ts es).map λb=>⟨ae a.1 b.1,uP a.2 b.2 (yo h)⟩else none
def ZL (x:Str) (p:Pos) (v:Expr) (pos:Pos):RS fs (.Assign [.Name x p] v pos):=(Ft fs nd 1 (.Name x p)).bind λa=>match v with
 | .ListComp elt gs scope cp=>if h:swV fs x p scope cp=true then(match gs with
   |[⟨dA,iter,ifs,0⟩]=>Mo o g fs nd elt dA iter ifs scope cp x p pos a (Nz h _)
   |_=>none)else(g.E o fs nd (o.live.any (sEq x)) (.ListComp elt gs scope cp)).map λd=>⟨ba a.1 d.1,mX d.2 a.2 (Nz (me.2 h) pos.line) (yp _) λU=>rfl⟩
 | .DictComp k w gs scope cp=>if h:swV fs x p scope cp=false then(g.E o fs nd (o.live.any (sEq x)) (.DictComp k w gs scope cp)).map λd=>⟨ba a.1 d.1,mX d.2 a.2 (WT h pos.line) (yp _) λU=>rfl⟩else none
 |v=>if h:C3 v=false then(g.E o fs nd (o.live.any (sEq x)) v).map λd=>⟨ba a.1 d.1,mX d.2 a.2 (Gi h (some (.Name x p)) pos.line (fK fs)) (yp _) λU=>rfl⟩else none
def Pu:(ts:List Expr)->RAs fs ts
 |[]=>some ⟨bf,Wb⟩
 |e::es=>if h:isStar e=false then(Ft fs nd 9 e).bind λa=>(Pu es).map λb=>⟨ao a.1 b.1,Oy a.2 b.2 (Nv h)⟩else none
def Tj (ts:List Expr) (k:Nat) (p:Pos) (v:Expr) (pos:Pos):RS fs (.Assign [.Tuple ts k p] v pos):=match v with
 | .Tuple vs k' p'=>(VV o g fs nd ts vs).bind λd=>if h:(UX ts vs||swC fs ts vs||vs.all (foldedForSure 8))=true then(Ft fs nd 9 (.Tuple ts k p)).map λa=>⟨ba a.1 (bb d.1),mX (Ki d.2) a.2 rfl (Qh h) λU=>rfl⟩
   else if h':vs.all (constantsAlone 8)=false then(match hN:D6 (fK fs) ts with
    |[x,y]=>if hx:c5 x=true then if hy:c5 y=true then(match k1:fT x fs.names 0,k2:fT y fs.names 0 with
     |some (i,.local),some (j,.local)=>some ⟨gD i j (bb d.1),Q3 (Ki d.2) (ip k1 hx) (ip k2 hy) nd rfl (hN▸GP (me.2 h) h')⟩
     |_,_=>none)else none else none
    |[x,y,z]=>if hx:c5 x=true then if hy:c5 y=true then if hz:c5 z=true then(match k1:fT x fs.names 0,k2:fT y fs.names 0,k3:fT z fs.names 0 with
     |some (i,.local),some (j,.local),some (l,.local)=>some ⟨HA i j l (bb d.1),Q2 (Ki d.2) (ip k1 hx) (ip k2 hy) (ip k3 hz) nd rfl (hN▸GP (me.2 h) h')⟩
     |_,_,_=>none)else none else none else none
    |_=>none)else none
 | .ListComp elt gs scope cp=>(g.E o fs nd false (.ListComp elt gs scope cp)).bind λd=>(Pu fs nd ts).map λa=>⟨ba (sT a.1) d.1,mX d.2 (Wc a.2) rfl rfl λU=>rfl⟩
 | .Call (.Name f np) [e] [kw] cp=>(g.E o fs nd false (.Call (.Name f np) [e] [kw] cp)).bind λd=>(Pu fs nd ts).map λa=>⟨ba (sT a.1) d.1,mX d.2 (Wc a.2) rfl rfl λU=>rfl⟩
 |v=>if h:(!C3 v&&!Vw v)=true then(g.E o fs nd false v).bind λd=>(Ft fs nd 9 (.Tuple ts k p)).map λa=>⟨ba a.1 d.1,mX d.2 a.2 (Gi (by simpa using(aX.1 h).1) (some (.Tuple ts k p)) pos.line (fK fs)) (W6 (by simpa using(aX.1 h).2) _) λU=>rfl⟩else none
noncomputable def X_:Stmt->Nat
 | .Expr _ p=>p.line
 | .For _ _ _ _ p=>p.line
 | .If _ _ _ p=>p.line
 | .Assign _ _ p=>p.line
 |_=>0
def goS:(s:Stmt)->RS fs s
 | .Assign [t] v pos=>match t with
  | .Name x p=>ZL o g fs nd x p v pos
  | .Tuple ts k p=>Tj o g fs nd ts k p v pos
  | .Subscript x i sp=>(g.E o fs nd false x).bind λa=>(g.E o fs nd false i).bind λb=>(g.E o fs nd false v).map λd=>⟨jM a.1 b.1 d.1,Q4 d.2 a.2 b.2 (Qi _ _)⟩
  |_=>none
 | .AugAssign t op v pos=>(Yg op).bind λf=>(g.E o fs nd false v).bind λd=>match t with
  | .Name x np=>if hp:c5 x=true then(match h:fT x fs.names 0 with
    |some (k,.local)=>some ⟨A_ k f.1 d.1,abg f.2 d.2 (ip h hp) (xm hp) nd⟩
    |_=>none)else none
  | .Subscript x i sp=>if h:xS i=false then(g.E o fs nd false x).bind λa=>(g.E o fs nd false i).map λb=>⟨lr f.1 a.1 b.1 d.1,Ls f.2 a.2 b.2 d.2 (Ug h)⟩else none
  |_=>none
 | .Expr e pos=>if h:C3 e=false then(g.E o fs nd false e).map λd=>⟨fU d.1,Xm d.2 (Gi h _ _ _)⟩else none
 | .If t a b pos=>(Nf o g fs nd 60 t).bind λt=>(Nh o g fs nd a).bind λa=>(Nh o g fs nd b).map λb=>⟨j9 t.1 a.1 b.1,rIf t.2 a.2 b.2⟩
 | .Break pos=>some ⟨PD,Rg⟩
 | .For t i b [] pos=>if h:wq i=false then if isLive o i then((g.E o fs nd false i).bind λi=>(Ft fs nd 9 t).bind λa=>(Nh o g fs nd b).map λb=>⟨zG i.1 a.1 b.1,Xl i.2 a.2 b.2 (mR h)⟩)else(UJ o g fs nd t i).bind λi=>(Ft fs nd 9 t).bind λa=>(Nh o g fs nd b).map λb=>⟨gJ i.1 a.1 b.1,abc i.2 a.2 b.2 (mR h)⟩else none
 | .While t b [] pos=>(Nf o g fs nd 60 t).bind λt=>(Nh o g fs nd b).map λb=>⟨jZ t.1 b.1 2000,Q1 2000 t.2 b.2⟩
 | .Return (some e) pos=>(g.E o fs nd false e).map λd=>if isLive o e then⟨eB (Nm d.1),VF (rFz d.2)⟩else⟨eB d.1,VF d.2⟩
 | .Assert t m pos=>(Nf o g fs nd 60 t).map λt=>⟨tX t.1,Lu t.2⟩
 | .Delete [.Subscript x i sp] pos=>(g.E o fs nd false x).bind λa=>(g.E o fs nd false i).map λb=>⟨Ed a.1 b.1,abe a.2 b.2⟩
 |_=>none
def goK (tl:List Stmt) (k:{d:DS//pR fs tl d}):(ss:List Stmt)->RB fs (ss++tl)
 |[]=>some k
 |s::ss=>(g.S o fs nd s).bind λa=>(goK tl k ss).map λb=>⟨ax a.1 b.1,O5 a.2 b.2⟩
theorem P5 {fs:FS} {x:Str} {k:Nat} {kd:NameKind} (h:fT x fs.names 0=some (k,kd)) (hk:(kd==.local ||kd==.cell)=true):isVar fs k:=
 (lU _ _ h).2.elim λj z=>⟨x,kd,by rw[z.1,cc];exact z.2,(mq.1 hk).imp eq_of_beq eq_of_beq⟩
def W5 (s:Stmt):RS fs s:=(goS o g fs nd s).bind λd=>match o.fz.find? (λx=>x.1==X_ s)with
 |some (_,x)=>(match h:fT x fs.names 0 with
  |some (k,kd)=>if hk:(kd==.local ||kd==.cell)=true then some ⟨tn k d.1,abb d.2 (P5 h hk)⟩else none
  |none=>none)
 |none=>some d
def goN:Nat->GoR
 |0=>⟨λU U U U U=>none,λU U U U=>none⟩
 |n+1=>⟨λo fs nd m e=>NB o (goN n) fs nd m e,λo fs nd s=>W5 o (goN n) fs nd s⟩
theorem eU {o:Op} {fs:FS} {nd:Nq fs} {body:List Stmt} {d:DS} (h:(Nh o (goN 60) fs nd body).map (·.1)=some d):pR fs body d:=(aO.1 h).elim λa w=>w.2▸a.2
theorem km {l:Nat} {a:Addr} {fd:FuncData} {b:List Stmt×Scope} {n k:Nat} {d:DS} (o:hZ a fd b.1 n) (hs:fd.scope=b.2) (h:∀code,pR (xM b.2 code l) b.1 d):dQ l a (tH n k d):=Hs o (hs▸h fd.code)
theorem Hr {l:Nat} {a:Addr} {fd:FuncData} {b:List Stmt×Scope} {n k:Nat} {d:DS} {v:Value} (o:hZ a fd b.1 n) (hs:fd.scope=b.2) (hc:fd.code=v) (h:pR (xM b.2 v l) b.1 d):dQ l a (tH n k d):=Hs o (hs▸hc.symm▸h)
end
def v_ (W:Wd):Op:=⟨W,none,[],none,[S [114,117,108,101,115]],[],[]⟩
theorem tA (W:Wd):dQ 0 W.dz.a fe:=km W.dz.ok W.dz.sc λcode=>eU (o:=v_ W) (nd:=cJ (by kernel_rfl)) (by kernel_rfl)
def bc (W:Wd):y8:=⟨S [105,110,95,116,97,98,108,101,95,99,49,49],W.dz.a,W.dz.fd,kY.1,1,fe,0,W.dz.gl,W.dz.ok,tA W⟩
def wF (W:Wd):Op:=⟨W,none,[bc W],none,[S [114,117,108,101,115]],[],[]⟩
theorem vZ (W:Wd):dQ 0 W.dU.a jj:=km W.dU.ok W.dU.sc λcode=>eU (o:=wF W) (nd:=cJ (by kernel_rfl)) (by kernel_rfl)
def bA (W:Wd):y8:=⟨S [105,110,95,116,97,98,108,101,95,98,49],W.dU.a,W.dU.fd,lI.1,1,jj,0,W.dU.gl,W.dU.ok,vZ W⟩
def v9 (W:Wd):Op:=⟨W,none,[bc W,bA W],none,[S [114,117,108,101,115]],[],[]⟩
theorem tw (W:Wd):dQ 0 W.du.a iJ:=km W.du.ok W.du.sc λcode=>eU (o:=v9 W) (nd:=cJ (by kernel_rfl)) (by kernel_rfl)
def bz (W:Wd):y8:=⟨S [109,97,112,95,116,97,98,108,101,95,98,51],W.du.a,W.du.fd,kX.1,1,iJ,0,W.du.gl,W.du.ok,tw W⟩
def EK (W:Wd):Op:=⟨W,none,[bc W,bA W,bz W],none,[S [114,117,108,101,115]],[],[]⟩
theorem c7 (W:Wd):dQ 0 W.mD bU:=km W.p6 W.vM λcode=>eU (o:=EK W) (nd:=cJ (by kernel_rfl)) (by kernel_rfl)
def wG (W:Wd):Op:=⟨W,none,[bc W,bA W,bz W],some ⟨bU,0,c7⟩,[S [114,117,108,101,115]],[],[]⟩
theorem v7 (W:Wd):dQ 0 W.dX.a fP:=km W.dX.ok W.dX.sc λcode=>eU (o:=wG W) (nd:=cJ (by kernel_rfl)) (by kernel_rfl)
def bW (W:Wd):y8:=⟨S [99,111,117,110,116,95,99,97,108,108,115],W.dX.a,W.dX.fd,lJ.1,1,fP,0,W.dX.gl,W.dX.ok,v7 W⟩
def wH (W:Wd):Op:=⟨W,none,[bc W,bA W,bz W,bW W],some ⟨bU,0,c7⟩,[S [114,117,108,101,115]],[S [110,101,119,95,99,97,108,108,101,114,115]],[]⟩
theorem v8 (W:Wd):dQ 0 W.dh.a fQ:=Hr W.dh.ok W.dh.sc W.oY<|eU (o:=wH W) (nd:=cJ (by kernel_rfl)) (by kernel_rfl)
def cb (W:Wd):y8:=⟨S [97,100,100,95,99,97,108,108,101,114,115],W.dh.a,W.dh.fd,lK.1,2,fQ,0,W.dh.gl,W.dh.ok,v8 W⟩
def rt (W:Wd):Op:=⟨W,none,[bc W,bA W,bz W,bW W,cb W],some ⟨bU,0,c7⟩,[S [114,117,108,101,115]],[],[(23,S [119,115])]⟩
theorem qb (W:Wd):dQ 0 W.b_.a a8:=km W.b_.ok W.b_.sc λcode=>eU (o:=rt W) (nd:=cJ (by kernel_rfl)) (by kernel_rfl)
def bL (W:Wd):y8:=⟨S [95,101,108,108,105,112,115,105,115,95,109,97,116,99,104],W.b_.a,W.b_.fd,iK.1,2,a8,0,W.b_.gl,W.b_.ok,qb W⟩
def tB (W:Wd):Op:=⟨W,none,[bc W,bA W,bz W,bW W,cb W,bL W],some ⟨bU,0,c7⟩,[S [114,117,108,101,115]],[],[]⟩
theorem sH (W:Wd):dQ 0 W.cN.a cq:=km W.cN.ok W.cN.sc λcode=>eU (o:=tB W) (nd:=cJ (by kernel_rfl)) (by kernel_rfl)
def cu (W:Wd):y8:=⟨S [95,108,97,119,95,112,114,111,100,117,99,116,115],W.cN.a,W.cN.fd,jQ.1,1,cq,0,W.cN.gl,W.cN.ok,sH W⟩
def Ax (W:Wd):Op:=⟨W,none,[bc W,bA W,bz W,bW W,cb W,bL W,cu W],some ⟨bU,0,c7⟩,[S [114,117,108,101,115]],[],[]⟩
theorem yI (W:Wd):dQ 0 W.fk.a aU:=km W.fk.ok W.fk.sc λcode=>eU (o:=Ax W) (nd:=cJ (by kernel_rfl)) (by kernel_rfl)
def fv (W:Wd):y8:=⟨S [95,108,97,119,95,119,111,114,100],W.fk.a,W.fk.fd,oR.1,1,aU,0,W.fk.gl,W.fk.ok,yI W⟩
def yQ (W:Wd):Op:=⟨W,none,[bc W,bA W,bz W,bW W,cb W,bL W,cu W,fv W],some ⟨bU,0,c7⟩,[S [114,117,108,101,115]],[],[]⟩
theorem wB (W:Wd):dQ 1 W.eH.a fF:=km W.eH.ok W.eH.sc λcode=>eU (o:=yQ W) (nd:=cJ (by kernel_rfl)) (by kernel_rfl)
def fG (W:Wd):y8:=⟨S [95,108,97,119,95,116,121,112,101,100],W.eH.a,W.eH.fd,nr.1,2,fF,1,W.eH.gl,W.eH.ok,wB W⟩
def sI (W:Wd):Op:=⟨W,none,[bc W,bA W,bz W,bW W,cb W,bL W,cu W,fv W,fG W],some ⟨bU,0,c7⟩,[S [114,117,108,101,115]],[],[]⟩
theorem rq (W:Wd):dQ 1 W.cC.a cD:=km W.cC.ok W.cC.sc λcode=>eU (o:=sI W) (nd:=cJ (by kernel_rfl)) (by kernel_rfl)
def dZ (W:Wd):y8:=⟨S [97,100,100,95,102,117,110,99,95,115,116,97,116,115],W.cC.a,W.cC.fd,iZ.1,2,cD,1,W.cC.gl,W.cC.ok,rq W⟩
def Az (W:Wd):Op:=⟨W,none,[bc W,bA W,bz W,bW W,cb W,bL W,cu W,fv W,fG W,dZ W],some ⟨bU,0,c7⟩,[S [114,117,108,101,115]],[S [115,105,100,101,115]],[]⟩
theorem yK (W:Wd):dQ 2 W.fq.a jD:=km W.fq.ok W.fq.sc λcode=>eU (o:=Az W) (nd:=cJ (by kernel_rfl)) (by kernel_rfl)
def jE (W:Wd):y8:=⟨S [95,108,97,119,95,114,101,97,100],W.fq.a,W.fq.fd,oU.1,2,jD,2,W.fq.gl,W.fq.ok,yK W⟩
def Ay (W:Wd):Op:=⟨W,none,[bc W,bA W,bz W,bW W,cb W,bL W,cu W,fv W,fG W,dZ W,jE W],some ⟨bU,0,c7⟩,[S [114,117,108,101,115]],[],[]⟩
theorem yJ (W:Wd):dQ 0 W.fm.a gu:=km W.fm.ok W.fm.sc λcode=>eU (o:=Ay W) (nd:=cJ (by kernel_rfl)) (by kernel_rfl)
def lA (W:Wd):y8:=⟨S [95,108,97,119,95,119,97,110,116],W.fm.a,W.fm.fd,oT.1,2,gu,0,W.fm.gl,W.fm.ok,yJ W⟩
def AB (W:Wd):Op:=⟨W,none,[bc W,bA W,bz W,bW W,cb W,bL W,cu W,fv W,fG W,dZ W,jE W,lA W],some ⟨bU,0,c7⟩,[S [114,117,108,101,115]],[S [102,105,116,115]],[]⟩
theorem yM (W:Wd):dQ 2 W.fu.a gv:=km W.fu.ok W.fu.sc λcode=>eU (o:=AB W) (nd:=cJ (by kernel_rfl)) (by kernel_rfl)
def oP (W:Wd):y8:=⟨S [95,108,97,119,95,100,111,119,110],W.fu.a,W.fu.fd,oW.1,5,gv,2,W.fu.gl,W.fu.ok,yM W⟩
def AA (W:Wd):Op:=⟨W,none,[bc W,bA W,bz W,bW W,cb W,bL W,cu W,fv W,fG W,dZ W,jE W,lA W,oP W],some ⟨bU,0,c7⟩,[S [114,117,108,101,115]],[S [97,115,107,115]],[(128,S [97,115,107,115])]⟩
theorem yL (W:Wd):dQ 1 W.ft.a g9:=km W.ft.ok W.ft.sc λcode=>eU (o:=AA W) (nd:=cJ (by kernel_rfl)) (by kernel_rfl)
def sX (W:Wd):y8:=⟨S [95,108,97,119,95,104,101,108,100],W.ft.a,W.ft.fd,oV.1,4,g9,1,W.ft.gl,W.ft.ok,yL W⟩
def yR (W:Wd):Op:=⟨W,none,[bc W,bA W,bz W,bW W,cb W,bL W,cu W,fv W,fG W,dZ W,jE W,lA W,oP W,sX W],some ⟨bU,0,c7⟩,[S [114,117,108,101,115]],[S [114,117,108,101,115]],[]⟩
theorem wC (W:Wd):dQ 3 W.eI.a gA:=km W.eI.ok W.eI.sc λcode=>eU (o:=yR W) (nd:=cJ (by kernel_rfl)) (by kernel_rfl)
def yT (W:Wd):y8:=⟨S [95,108,97,119,95,114,117,108,101,115],W.eI.a,W.eI.fd,nv.1,6,gA,3,W.eI.gl,W.eI.ok,wC W⟩
theorem My {o:Op} {fs:FS} {nd:Nq fs} {e:Expr} {d:D} (h:(NB o (goN 60) fs nd false e).map (·.1)=some d):bX fs e d:=(aO.1 h).elim λa w=>w.2▸a.2
noncomputable def X1 (W:Wd):Op:=⟨W,none,[],none,[],[],[]⟩
theorem QP (W:Wd) (code:Value):bX (qp code 0) dB.2.1 pe:=My (o:=X1 W) (nd:=cJ (by kernel_rfl)) (by kernel_rfl)
noncomputable def Ee:Option Stmt->Pos×Pos
 |some (.Assign [.Name _ p] _ q)=>(p,q)
 |_=>default
def o_law (hD:zm pe) (W:Wd):Op:=⟨W,some ⟨pe,0,QP W,hD⟩,[bc W,bA W,bz W,bW W,cb W,bL W,cu W,fv W,fG W,dZ W,jE W,lA W,oP W,sX W,yT W],some ⟨bU,0,c7⟩,[S [114,117,108,101,115]],[S [99,101,108,108,115],S [110,117,109,98,101,114,115],S [111,100,100],S [119,97,105,116,105,110,103],S [97,115,107,101,100],S [102,105,114,115,116],S [108,101,100,103,101,114]],[(178,S [108,101,100,103,101,114])]⟩
theorem IZ:ie.1=ie.1.take 7++.Assign [.Name lF (Ee ie.1[7]?).1] (.Lambda dB.1 dB.2.1 dB.2.2.1 dB.2.2.2) (Ee ie.1[7]?).2::ie.1.drop 8:=by kernel_rfl
theorem I0:∀x∈eQ.names,x.2= .free->(xM ie.2 (.ref 187) 4).names.lookup x.1=some .cell:=by
 rw[iY]
 intro x hx e
 simp only[aC,bh,or_false]at hx
 rcases hx with rfl|rfl|rfl|rfl
 ·cases e
 ·kernel_rfl
 ·cases e
 ·cases e
theorem Sb (hD:zm pe) (W:Wd):pR (xM ie.2 (.ref 187) 4) ie.1 CX:=by
 have nd:Nq (xM ie.2 (.ref 187) 4):=cJ (by kernel_rfl)
 have hl:kh (xM ie.2 (.ref 187) 4) (.Assign [.Name lF (Ee ie.1[7]?).1] (.Lambda dB.1 dB.2.1 dB.2.2.1 dB.2.2.2) (Ee ie.1[7]?).2) (Ec 24):=aa4 W.bB (by rw[W.tl1];rfl) rfl ⟨⟨by kernel_rfl,by kernel_rfl⟩,by kernel_rfl⟩ nd I0
 have h:((Nh (o_law hD W) (goN 60) _ nd (ie.1.drop 8)).bind λb=>(goK (o_law hD W) (goN 60) _ nd (.Assign [.Name lF (Ee ie.1[7]?).1] (.Lambda dB.1 dB.2.1 dB.2.2.1 dB.2.2.2) (Ee ie.1[7]?).2::ie.1.drop 8) ⟨ax (Ec 24) b.1,O5 hl b.2⟩ (ie.1.take 7)).map (·.1))=some CX:=by kernel_rfl
 obtain⟨b,_,h⟩:=aM.1 h
 obtain⟨a,_,h⟩:=aO.1 h
 rw[IZ,<-h]
 exact a.2
theorem QO (hD:zm pe) (W:Wd):dQ 4 W.wU.a N3:=Hr W.wU.ok W.wU.sc W.HC (Sb hD W)
set_option backward.match.sparseCases true
section
noncomputable abbrev HK:=List (Nat×(bJ->Prop))
abbrev Is (o:bJ):bJ->Prop:=λx=>x=o
def bP (K:HK) (H:aj):Prop:=∀p∈K,∃o,H[p.1]?=some (some o)/\p.2 o
abbrev aE:=List (Nat×V)
def Loc (n:Nat) (L:aE) (loc:c8):Prop:=loc.length=n/\∀k v,L.lookup k=some v->loc[k]?=some (some v)
theorem bP.app {K:HK} {H:aj} (h:bP K H) (J:aj):bP K (H++J):=λp hp=>(h p hp).imp λo w=>⟨by rw[ly (bO.1 w.1).1];exact w.1,w.2⟩
theorem bP.lt {K:HK} {H:aj} (h:bP K H) {p:Nat×(bJ->Prop)} (hn:p∈K):p.1<H.length:=(h _ hn).elim λU w=>(bO.1 w.1).1
theorem bP.new {K:HK} {H:aj} (h:bP K H) (o:bJ):bP ((H.length,Is o)::K) (H++[some o]):=λp hp=>by
 rcases aC.1 hp with q|q
 ·subst q;exact⟨o,by simp,rfl⟩
 ·exact h.app _ p q
theorem bP.drop {K:HK} {H:aj} {p:Nat×(bJ->Prop)} (h:bP (p::K) H):bP K H:=λq hq=>h q (b9 _ hq)
theorem bP.set {K:HK} {H:aj} (h:bP K H) (n:Nat) (o:KJ) (hn:∀p∈K,p.1≠n):bP K (H.set n o):=λp hp=>by
 rw[jh (λq=>hn p hp q.symm)];exact h p hp
theorem bP.upd {K:HK} {H:aj} (h:bP K H) (n:Nat) (o:bJ) (A:bJ->Prop) (ha:A o) (hl:n<H.length) (hn:∀p∈K,p.1≠n):bP ((n,A)::K) (H.set n (some o)):=λp hp=>by
 rcases aC.1 hp with q|q
 ·subst q;exact⟨o,by simp[hl],ha⟩
 ·exact h.set n _ hn p q
theorem bP.ne {K:HK} {H:aj} (h:bP K H) {n:Nat} (hn:H.length<=n):∀p∈K,p.1≠n:=λp hp q=>by
 have :=h.lt hp;exact ac7 this q hn
theorem bP.is {K:HK} {H:aj} (h:bP K H) {m:Nat} {o:bJ} (hm:(m,Is o)∈K):H[m]?=some (some o):=(h _ hm).elim λx w=>w.2▸w.1
theorem bP.at {K:HK} {H:aj} {m:Nat} {o:bJ} (h:bP ((m,Is o)::K) H):H[m]?=some (some o):=h.is cV
set_option tactic.hygienic true in
theorem Loc.set {n:Nat} {L:aE} {loc:c8} (h:Loc n L loc) (k:Nat) (v:V) (hk:k<n):Loc n ((k,v)::L) (loc.set k (some v)):=⟨by simp[h.1],λj w e=>by
 rw[bG]at e
 split at e
 ·rename_i q;have :=eq_of_beq q;subst this;cases e
  rw[q6 (by rw[h.1];exact hk)]
 ·rename_i q
  rw[jh (λr=>by subst r;simp at q)];exact h.2 j w e⟩
theorem Loc.mono {n:Nat} {L L':aE} {loc:c8} (h:Loc n L loc) (hl:∀k v,L'.lookup k=some v->L.lookup k=some v):Loc n L' loc:=⟨h.1,λk v e=>h.2 k v (hl k v e)⟩
def AllP {α:Type} (p:α->Prop):List α->Prop
 |[]=>True
 |x::l=>p x/\AllP p l
theorem AllP.n {α:Type} {p:α->Prop}:AllP p []:=trivial
theorem AllP.c {α:Type} {p:α->Prop} {x:α} {l:List α} (h:p x) (k:AllP p l):AllP p (x::l):=⟨h,k⟩
theorem AllP.of {α:Type} {p:α->Prop} {l:List α} (h:AllP p l):∀x∈l,p x:=by
 induction l with
 |nil=>exact λx hx=>by cases hx
 |cons y l ih=>exact λx hx=>(aC.1 hx).elim (λe=>e▸h.1) (ih h.2 x)
theorem Hb {L:aE} {k:Nat} {v:V} (h:L.lookup k=some v):(k,v)∈L:=by
 induction L with
 |nil=>cases h
 |cons p L ih=>
  rw[bG]at h
  cases q:k==p.1 with
  |true=>rw[q]at h;exact aP h▸eq_of_beq q▸.head _
  |false=>rw[q]at h;exact .tail _ (ih h)
theorem Ha {L L':aE} (k:AllP (λp:Nat×V=>L.lookup p.1=some p.2) L') (j:Nat) (v:V) (e:L'.lookup j=some v):L.lookup j=some v:=k.of (j,v) (Hb e)
theorem Loc.sub {n:Nat} {L L':aE} {loc:c8} (h:Loc n L loc) (k:AllP (λp:Nat×V=>L.lookup p.1=some p.2) L'):Loc n L' loc:=h.mono (Ha k)
theorem NK {L:aE} {n:Nat} (h:(L.all λp=>Nat.blt p.1 n)=true) (j:Nat) (hj:n<=j):L.lookup j=none:=by
 cases e:L.lookup j with
 |none=>rfl
 |some v=>exact absurd (je (ay (aI.1 h _ (Hb e))) hj) (gO _)
abbrev AtH {α:Type} (K:HK) (loc:c8) (o:Option (α×St)) (v:α):Prop:=∃H',o=some (v,⟨H',loc⟩)/\bP K H'
abbrev Gv {α:Type} (n:Nat) (K:HK) (L:aE) (d:St->Option (α×St)) (v:α):Prop:=∀H loc,bP K H->Loc n L loc->AtH K loc (d ⟨H,loc⟩) v
def Ev (n:Nat) (K:HK) (L:aE) (d:D) (v:V):Prop:=Gv n K L d v
def j_ (n:Nat) (K:HK) (L:aE) (d:DT) (v:Bool):Prop:=Gv n K L d v
def y2 (n:Nat) (K:HK) (L:aE) (d:DL) (v:aq):Prop:=Gv n K L d v
def US (n:Nat) (K:HK) (L:aE) (d:DO) (v:Option Int):Prop:=Gv n K L d v
def UR (n:Nat) (K:HK) (L:aE) (d:FJ) (v:List (ar×V)):Prop:=Gv n K L d v
def mI (n:Nat) (K:HK) (L:aE) (d:DI) (v:aq):Prop:=Gv n K L d v
def Fn (K:HK) (f:aj->aq->Option (V×aj)) (vs:aq) (v:V):Prop:=∀H,bP K H->∃H',f H vs=some (v,H')/\bP K H'
theorem aR {α β:Type} {x:Option α} {a:α} {k:α->Option β} {r:Option β} (h:x=some a) (e:k a=r):x.bind k=r:=h▸e
theorem gH {α β:Type} {x:Option α} {a:α} {k:α->β} (h:x=some a):x.map k=some (k a):=h▸rfl
theorem D0 {α:Type} {c:Prop} [Decidable c] {x y r:Option α} (h:c) (e:x=r):(if c then x else y)=r:=(ag h).trans e
section
variable{n:Nat} {K:HK} {L:aE} {a b:D} {x y v:V} {t:DT} {ds:DL} {vs:aq} {c:Bool}
theorem yW {α β:Type} {d:St->Option (α×St)} {x:α} {k:α×St->Option (β×St)} {w:β} {H:aj} {loc:c8} (h:Gv n K L d x) (hh:bP K H) (hl:Loc n L loc) (e:∀H',bP K H'->AtH K loc (k (x,⟨H',loc⟩)) w):AtH K loc ((d ⟨H,loc⟩).bind k) w:=
 (h H loc hh hl).elim λH₁ ff=>(e H₁ ff.2).elim λbT cX=>⟨bT,aR ff.1 cX.1,cX.2⟩
theorem Gv.l {α β:Type} {d:St->Option (α×St)} {x:α} {k:α×St->Option (β×St)} {w:β} (h:Gv n K L d x) (e:∀H' loc,bP K H'->k (x,⟨H',loc⟩)=some (w,⟨H',loc⟩)):Gv n K L (λst=>(d st).bind k) w:=
 λU loc hh hl=>yW h hh hl λH₁ aV=>⟨H₁,e H₁ loc aV,aV⟩
theorem Ev.con:Ev n K L (dC v) v:=λH loc h U=>⟨H,rfl,h⟩
theorem Ev.var {k:Nat} (e:L.lookup k=some v):Ev n K L (aa k) v:=λH loc h hl=>⟨H,gH (ak Option.join (hl.2 k v e)),h⟩
theorem Gv.two {α β γ:Type} {d:St->Option (α×St)} {d':St->Option (β×St)} {x:α} {y:β} {k:α×St->β×St->Option (γ×St)} {w:γ} (h:Gv n K L d x) (h':Gv n K L d' y) (e:∀H₁ bT loc,bP K H₁->bP K bT->k (x,⟨H₁,loc⟩) (y,⟨bT,loc⟩)=some (w,⟨bT,loc⟩)):Gv n K L (λst=>(d st).bind λx=>(d' x.2).bind (k x)) w:=
 λU loc hh hl=>yW h hh hl λH₁ aV=>yW h' aV hl λbT cH=>⟨bT,e H₁ bT loc aV cH,cH⟩
theorem Ev.bin {f:V->V->Option V} (ha:Ev n K L a x) (hb:Ev n K L b y) (e:f x y=some v):Ev n K L (aB f a b) v:=Gv.two ha hb λU U U U U=>gH e
theorem Ev.cmp {f:aj->V->V->Option Bool} (ha:Ev n K L a x) (hb:Ev n K L b y) (e:∀H,bP K H->f H x y=some c):Ev n K L (mM f a b) (.bool c):=Gv.two ha hb λU H U U h=>gH (e H h)
theorem j_.cmp {f:aj->V->V->Option Bool} (ha:Ev n K L a x) (hb:Ev n K L b y) (e:∀H,bP K H->f H x y=some c):j_ n K L (aS f a b) c:=Gv.two ha hb λU H U U h=>gH (e H h)
theorem y2.no:y2 n K L az []:=λH loc h U=>⟨H,rfl,h⟩
theorem y2.and (ha:Ev n K L a x) (hb:y2 n K L ds vs):y2 n K L (ae a ds) (x::vs):=Gv.two ha hb λU U U U U=>rfl
theorem Ev.tup (ha:y2 n K L ds vs) (e:vs.length<=16777216):Ev n K L (bb ds) (.tup vs):=Gv.l ha λU U U=>ag e
theorem Ev.lst (ha:y2 n K L ds vs) (e:vs.length<=16777216):Ev n K L (eL ds) (.lst vs):=Gv.l ha λU U U=>ag e
theorem j_.Fm (ha:Ev n K L a x) (e:∀H,O1 H x=some c):j_ n K L (nF a) c:=Gv.l ha λH U U=>gH (e H)
theorem j_.not (ha:j_ n K L t c):j_ n K L (CY t) (!c):=Gv.l ha λU U U=>rfl
theorem j_.ace:j_ n K L pJ true:=λH loc h U=>⟨H,rfl,h⟩
theorem j_.or0:j_ n K L tm false:=λH loc h U=>⟨H,rfl,h⟩
theorem j_.yes:j_ n K L dp true:=λH loc h U=>⟨H,rfl,h⟩
theorem j_.and {t':DT} {c':Bool} (ha:j_ n K L t c) (hb:c=true->j_ n K L t' c'):j_ n K L (jt t t') (c&&c'):=λH loc h hl=>yW ha h hl<|match c,hb with
 |false,_=>λH₁ aV=>⟨H₁,rfl,aV⟩
 |true,hb=>λH₁ aV=>hb rfl H₁ loc aV hl
theorem j_.or {t':DT} {c':Bool} (ha:j_ n K L t c) (hb:c=false->j_ n K L t' c'):j_ n K L (iV t t') (c||c'):=λH loc h hl=>yW ha h hl<|match c,hb with
 |true,_=>λH₁ aV=>⟨H₁,rfl,aV⟩
 |false,hb=>λH₁ aV=>hb rfl H₁ loc aV hl
theorem Ev.ite (ht:j_ n K L t c) (ha:c=true->Ev n K L a v) (hb:c=false->Ev n K L b v):Ev n K L (lO t a b) v:=λH loc h hl=>yW ht h hl<|match c,ha,hb with
 |true,ha,_=>λH₁ aV=>ha rfl H₁ loc aV hl
 |false,_,hb=>λH₁ aV=>hb rfl H₁ loc aV hl
theorem Ev.Pl (ht:j_ n K L t true) (ha:Ev n K L a v):Ev n K L (lO t a b) v:=λH loc h hl=>yW ht h hl λH₁ aV=>ha H₁ loc aV hl
theorem Ev.zh (ht:j_ n K L t false) (hb:Ev n K L b v):Ev n K L (lO t a b) v:=λH loc h hl=>yW ht h hl λH₁ aV=>hb H₁ loc aV hl
theorem Ev.neg {i:Int} (ha:Ev n K L a (.int i)):Ev n K L (lN a) (.int (-i)):=Gv.l ha λU U U=>rfl
theorem Ev.idx (ha:Ev n K L a x) (hb:Ev n K L b y) (e:∀H,bP K H->gC H x y=some v):Ev n K L (aH a b) v:=Gv.two ha hb λU H U U h=>gH (e H h)
theorem US.p0:US n K L ti .none:=λH loc h U=>⟨H,rfl,h⟩
theorem US.p {i:Int} (ha:Ev n K L a (.int i)):US n K L (dP a) (some i):=Gv.l ha λU U U=>rfl
theorem Ev.slice {lo hi:DO} {i j:Option Int} (ha:Ev n K L a x) (h1:US n K L lo i) (h2:US n K L hi j) (e:∀H,bP K H->kr H x i j=some v):Ev n K L (cS a lo hi) v:=λH loc h hl=>
 yW ha h hl λH₁ aV=>yW h1 aV hl λbT cH=>yW h2 cH hl λwz jI=>⟨wz,gH (e wz jI),jI⟩
theorem Ev.call {f:aj->aq->Option V} (ha:y2 n K L ds vs) (e:∀H,bP K H->f H vs=some v):Ev n K L (a5 f ds) v:=Gv.l ha λH U h=>gH (e H h)
theorem Ev.cM {f:aj->aq->Option (V×aj)} (ha:y2 n K L ds vs) (e:Fn K f vs v):Ev n K L (aN f ds) v:=λH loc h hl=>yW ha h hl λH₁ aV=>(e H₁ aV).imp λU w=>⟨gH w.1,w.2⟩
theorem Ev.fg {f:aj->aq->Option (V×aj)} (ha:Ev n K L a (.cmp x)) (hb:y2 n K L ds vs) (e:Fn K f (.cmp x::vs) v):Ev n K L (uJ f a ds) v:=λH loc h hl=>yW ha h hl λH₁ aV=>yW hb aV hl λbT cH=>(e bT cH).imp λU w=>⟨gH w.1,w.2⟩
theorem Ev.mk (ha:Ev n K L a x):Ev n K L (OU a) (.cmp x):=Gv.l ha λU U U=>rfl
theorem Ev.FR {kd:aj->V->Bool} {f:aj->V->aq->Option (V×aj)} (ha:Ev n K L a x) (hb:y2 n K L ds vs) (e:∀H,bP K H->∃H',f H x vs=some (v,H')/\bP K H')
  (hk:∀H,bP K H->kd H x=true):Ev n K L (bC kd f a ds) v:=λH loc h hl=>yW ha h hl λH₁ aV=>(yW hb aV hl λbT cH=>(e bT cH).imp λU w=>⟨gH w.1,w.2⟩:AtH K loc ((ds ⟨H₁,loc⟩).bind _) v).imp λU w=>⟨D0 (hk H₁ aV) w.1,w.2⟩
theorem Ev.sP {f:aj->V->aq->Option (V×aj)} {s:ar} (ha:Ev n K L a (.str s)) (hb:y2 n K L ds vs) (e:∀H,bP K H->f H (.str s) vs=some (v,H)):Ev n K L (bC nH f a ds) v:=
 .FR ha hb (λH h=>⟨H,e H h,h⟩) (λU U=>rfl)
theorem Ev.is {f:aj->V->Option Bool} (ha:Ev n K L a x) (e:∀H,f H x=some c):Ev n K L (OV f a) (.bool c):=Gv.l ha λH U U=>gH (e H)
theorem Ev.inSet {S:Int->Bool} {i:Int} (ha:Ev n K L a (.int i)):Ev n K L (yg S a) (.bool (S i)):=Gv.l ha λU U U=>rfl
theorem Ev.ab1 {f:Int->Option ar} {i:Int} (ha:Ev n K L a (.int i)):Ev n K L (C1 f a) ((f i).elim .none .str):=Gv.l ha λU U U=>rfl
theorem Ev.KD {f:aj->V->V->Option aq} (ha:Ev n K L a x) (hb:Ev n K L b y) (e:∀H,bP K H->f H x y=some vs):Ev n K L (jr f a b) (.lst vs):=Gv.two ha hb λU H U U h=>gH (e H h)
theorem Ev.keys (ha:Ev n K L a x) (e:NN x=some vs):Ev n K L (aad a) (.lst vs):=Gv.l ha λU U U=>gH e
theorem Ev.Kx:Ev n K L lj (.eK [] []):=λH loc h U=>⟨H,rfl,h⟩
theorem Ev.sel (ha:Ev n K L a (.cmp x)):Ev n K L (KA a) x:=Gv.l ha λU U U=>rfl
theorem UR.nil:UR n K L uq []:=λH loc h U=>⟨H,rfl,h⟩
theorem UR.cons {k:ar} {r:FJ} {ps:List (ar×V)} (ha:Ev n K L a (.str k)) (hb:Ev n K L b x) (hr:UR n K L r ps):UR n K L (mL a b r) ((k,x)::ps):=λH loc h hl=>
 yW ha h hl λH₁ aV=>yW hb aV hl λbT cH=>(hr bT loc cH hl).imp λU w=>⟨gH w.1,w.2⟩
theorem Ev.F3 {r:FJ} {ps:List (ar×V)} (hr:UR n K L r ps) (h15:ps.length<=15):Ev n K L (nU r) (.eK (lR ps ([],[])).1 (lR ps ([],[])).2):=Gv.l hr λU U U=>ag h15
theorem Ev.P8 {p q r:aq} {ux uy:V} (ha:y2 n K L ds [ux,uy]) (hp:FA ux=some p) (hq:FA uy=some q) (hl:p.length<=16777216) (e:FL p q=some r):Ev n K L (tW ds) (.tup r):=Gv.l ha λU U U=>aR (x:=rK [ux,uy]) rfl (aR hp (aR hq (D0 hl (gH e))))
theorem mI.iter (ha:Ev n K L a x) (e:Gl x=some vs):mI n K L (cI a) vs:=Gv.l ha λU U U=>gH e
theorem mI.range {i j k:Int} {us:aq} (ha:y2 n K L ds us) (e:pk us=some (i,j,k)) (o:yt i j k=true):mI n K L (cZ ds) (eZ i j k):=Gv.l ha λU U U=>aR e (ag o)
theorem mI.enum {l:aq} (ha:Ev n K L a (.lst l)):mI n K L (nA a) (ny l):=Gv.l ha λU U U=>rfl
theorem mI.items {ks:aG} {l:aq} (ha:Ev n K L a (.eK ks l)) (e:ks.length=l.length) (o:fO ks=true):mI n K L (kB a) (cQ ks l):=Gv.l ha λU U U=>ag ⟨e,o⟩
theorem mI.values {ks:aG} {l:aq} (ha:Ev n K L a (.eK ks l)) (e:ks.length=l.length):mI n K L (tV a) l:=Gv.l ha λU U U=>ag e
theorem mI.zip {p q:aq} {ux uy:V} (ha:y2 n K L ds [ux,uy]) (hp:FA ux=some p) (hq:FA uy=some q):mI n K L (Kz ds) (FK p q):=Gv.l ha λU U U=>aR (x:=rK [ux,uy]) rfl (aR hp (gH hq))
def Tg (n:Nat) (da:DA) (x:V) (X:aE):Prop:=∀H loc L,Loc n L loc->∃a6,da x ⟨H,loc⟩=some ⟨H,a6⟩/\Loc n (X++L) a6
theorem Tg.var {k:Nat} (hk:k<n):Tg n (ah k) x [(k,x)]:=λH loc L hl=>⟨_,rfl,hl.set k x hk⟩
def JU (n:Nat) (da:Cw) (x:aq) (X:aE):Prop:=∀H loc L,Loc n L loc->∃a6,da x ⟨H,loc⟩=some ⟨H,a6⟩/\Loc n (X++L) a6
theorem JU.nil:JU n bf [] []:=λH loc L hl=>⟨_,rfl,hl⟩
theorem JU.cons {da:DA} {Nl:Cw} {X Y:aE} (h1:Tg n da x X) (h2:JU n Nl vs Y):JU n (ao da Nl) (x::vs) (Y++X):=λH loc L hl=>
 (h1 H loc L hl).elim λiM ff=>(h2 H iM _ ff.2).imp λU w=>⟨aR ff.1 w.1,(eV Y X L).symm▸w.2⟩
theorem Tg.tup {Nl:Cw} {X:aE} (h:JU n Nl vs X):Tg n (bx Nl) (.tup vs) X:=h
theorem Tg.two {i j:Nat} (hi:i<n) (hj:j<n):Tg n (bx (ao (ah i) (ao (ah j) bf))) (.tup [x,y]) [(j,y),(i,x)]:=.tup (.cons (.var hi) (.cons (.var hj) .nil))
noncomputable def jL (js:List (Option Nat)) (L:aE):aE:=js.zipIdx.filterMap λp=>p.1.bind λj=>(L.lookup j).map λv=>(p.2,v)
set_option tactic.hygienic true in
theorem lookup_mem {l:aE} {k:Nat} {v:V} (h:l.lookup k=some v):(k,v)∈l:=by
 induction l with
 |nil=>cases h
 |cons p r ih=>
  obtain⟨j,w⟩:=p
  rw[bG]at h
  split at h
  ·rename_i q;cases h;rw[eq_of_beq q];exact cV
  ·exact b9 _ (ih h)
theorem zw {js:List (Option Nat)} {loc:c8} (hl:Loc n L loc):Loc js.length (jL js L) (qk js loc):=⟨by simp[qk],λk v e=>by
 have m:=lookup_mem e
 unfold jL at m
 obtain⟨⟨o,i⟩,hm,he⟩:=List.mem_filterMap.1 m
 have hm:=List.mem_zipIdx_iff_getElem?.1 hm
 cases o with
 |none=>cases he
 |some j=>
  simp only[iA,aO,l8]at he
  obtain⟨w,hw,rfl,rfl⟩:=he
  have hm:js[i]?=some (some j):=by simpa using hm
  simp only[qk,aQ,hm,iw,iA,hl.2 j w hw,Option.join_some]⟩
def Bd (m:Nat) (K:HK) (Lc:aE) (da:DA) (dt:DT) (de:D) (x:V) (p:Bool) (g:V):Prop:=
 ∃X,Tg m da x X/\(∀k,(X.lookup k).isSome=true->Lc.lookup k=none)/\j_ m K (X++Lc) dt p/\(p=true->Ev m K (X++Lc) de g)
theorem B8 {X Y:aE} {k:Nat}:(X++Y).lookup k=(X.lookup k).or (Y.lookup k):=by
 induction X with
 |nil=>rfl
 |cons p r ih=>
  obtain⟨j,w⟩:=p
  rw[kP,bG,bG]
  split
  ·rfl
  ·exact ih
theorem oO {X Y:aE} {k:Nat} {v:V} (hx:∀k,(X.lookup k).isSome=true->Y.lookup k=none) (e:Y.lookup k=some v):(X++Y).lookup k=some v:=by
 rw[B8]
 cases q:X.lookup k with
 |none=>exact e
 |some w=>exact nomatch(hx k (by rw[q];rfl)).symm.trans e
def q8:=@List.filter_cons_of_neg
def my:=@List.filter_cons_of_pos
theorem Jw {m:Nat} {Lc:aE} {da:DA} {dt:DT} {de:D} (p:V->Bool) (g:V->V) (l:aq):∀acc:aq,(∀x∈l,Bd m K Lc da dt de x (p x) (g x))->acc.length+l.length<=16777216->
  ∀H loc,bP K H->Loc m Lc loc->∃H' a6,gh da dt (aK de) l (.list acc) ⟨H,loc⟩=some (.list (acc++(l.filter p).map g),⟨H',a6⟩)/\bP K H':=by
 induction l with
 |nil=>exact λacc U U H loc h U=>⟨H,loc,by rw[List.filter_nil,fB,eh];rfl,h⟩
 |cons x l ih=>
  intro acc hb hn H loc h hl
  have UC:acc.length+1+l.length<=16777216:=aA (iG (qR _ _ _)) hn
  have Vb:∀y∈l,Bd m K Lc da dt de y (p y) (g y):=λy hy=>hb y (b9 _ hy)
  exact(hb x cV).elim λX w=>(w.1 H loc Lc hl).elim λiM ff=>(w.2.2.1 H iM h ff.2).elim λbT cX=>
   have hL:Loc m Lc iM:=ff.2.mono λk v e=>oO w.2.1 e
   match hpx:p x,w.2.2.2,cX.1 with
   |false,_,iO=>(ih acc Vb (aA (qX (gM _) _) UC) bT iM cX.2 hL).imp λU=>dJ λU uf=>⟨aR ff.1 (aR iO (uf.1.trans (by rw[q8 (by rw[hpx];exact eW)]))),uf.2⟩
   |true,he,iO=>(he rfl bT iM cX.2 ff.2).elim λwz uf=>
    (ih (acc++[g x]) Vb (by rw[bH];exact UC) wz iM uf.2 hL).imp λU=>dJ λU Vu=>⟨aR ff.1 (aR iO (aR (D0 (je (je (jb _) (f7 _ _)) UC) (gH uf.1)) (Vu.1.trans (by rw[my hpx,bo,eV];rfl)))),Vu.2⟩
theorem Ev.comp {di:DI} {js:List (Option Nat)} {da:DA} {dt:DT} {de:D} {l:aq} (p:V->Bool) (g:V->V) (hi:mI n K L di l) (hn:l.length<=16777216) (hb:∀x∈l,Bd js.length K (jL js L) da dt de x (p x) (g x)):
  Ev n K L (fS (a9 di js da dt (aK de) (.list []))) (.lst ((l.filter p).map g)):=λH loc h hl=>
 (hi H loc h hl).elim λH₁ w=>(Jw p g l [] hb ((cc _).symm▸hn) H₁ (qk js loc) w.2 (zw hl)).imp λbT cX=>cX.elim λg_ cX=>⟨(ak (Option.map _) (aR w.1 (ak (Option.map _) cX.1))).trans rfl,cX.2⟩
set_option tactic.hygienic true in
theorem vc {Lc:aE} {k:Nat} {x:V} (hf:Lc.lookup k=none):∀j,(([(k,x)]:aE).lookup j).isSome=true->Lc.lookup j=none:=λj hj=>by
 rw[bG]at hj
 split at hj
 ·rename_i q;rw[eq_of_beq q];exact hf
 ·cases hj
theorem Ev.C4 {di:DI} {js:List (Option Nat)} {de:D} {k:Nat} {l:aq} (g:V->V) (hi:mI n K L di l) (hn:l.length<=16777216) (hk:k<js.length) (hf:(jL js L).lookup k=none) (hb:∀x∈l,Ev js.length K ((k,x)::jL js L) de (g x)):
  Ev n K L (fS (a9 di js (ah k) dp (aK de) (.list []))) (.lst (l.map g)):=by
 have :=Ev.comp (js:=js) (da:=ah k) (dt:=dp) (de:=de) (λU=>true) g hi hn λx hx=>⟨[(k,x)],.var hk,vc hf,.yes,λU=>hb x hx⟩
 rwa[List.filter_eq_self.2 (λU U=>rfl)]at this
theorem Ev.aaf {di:DI} {js:List (Option Nat)} {de:D} {dt:DT} {k:Nat} {l:aq} (p:V->Bool) (g:V->V) (hi:mI n K L di l) (hn:l.length<=16777216) (hk:k<js.length) (hf:(jL js L).lookup k=none) (ht:∀x∈l,j_ js.length K ((k,x)::jL js L) dt (p x)) (hb:∀x∈l,p x=true->Ev js.length K ((k,x)::jL js L) de (g x)):
  Ev n K L (fS (a9 di js (ah k) dt (aK de) (.list []))) (.lst ((l.filter p).map g)):=
 Ev.comp (js:=js) (da:=ah k) (dt:=dt) (de:=de) p g hi hn λx hx=>⟨[(k,x)],.var hk,vc hf,ht x hx,hb x hx⟩
def Sx (n:Nat) (K:HK) (L:aE) (d:DS) (Q:aj->c8->Prop):Prop:=∀H loc,bP K H->Loc n L loc->∃H' a6,d ⟨H,loc⟩=some (.next,⟨H',a6⟩)/\Q H' a6
def Rt (n:Nat) (K:HK) (L:aE) (d:DS) (v:V):Prop:=∀H loc,bP K H->Loc n L loc->∃H' a6,d ⟨H,loc⟩=some (.ret v,⟨H',a6⟩)/\bP K H'
def Sn (n:Nat) (K:HK) (L:aE) (d:DS) (L':aE):Prop:=Sx n K L d λH loc=>bP K H/\Loc n L' loc
theorem wN {α β:Type} {d:St->Option (α×St)} {x:α} {k:α×St->Option β} {w:aj->c8->Prop} {H:aj} {loc:c8} {r:aj->c8->β} (h:Gv n K L d x) (hh:bP K H) (hl:Loc n L loc) (e:∀H',bP K H'->∃Vr zv,k (x,⟨H',loc⟩)=some (r Vr zv)/\w Vr zv):∃Vr zv,(d ⟨H,loc⟩).bind k=some (r Vr zv)/\w Vr zv:=
 (h H loc hh hl).elim λH₁ ff=>(e H₁ ff.2).imp λU=>dJ λU cX=>⟨aR ff.1 cX.1,cX.2⟩
theorem Rt.ret (h:Ev n K L a v):Rt n K L (eB a) v:=λH loc hh hl=>wN h hh hl λH₁ aV=>⟨H₁,loc,rfl,aV⟩
theorem Rt.fst {d e:DS} (h:Rt n K L d v):Rt n K L (ax d e) v:=λH loc hh hl=>(h H loc hh hl).imp λU=>dJ λU w=>⟨aR w.1 rfl,w.2⟩
theorem Rt.seq {d e:DS} {L':aE} (h:Sn n K L d L') (h':Rt n K L' e v):Rt n K L (ax d e) v:=λH loc hh hl=>
 (h H loc hh hl).elim λH₁ ff=>ff.elim λiM ff=>(h' H₁ iM ff.2.1 ff.2.2).imp λU=>dJ λU cX=>⟨aR ff.1 cX.1,cX.2⟩
theorem Sn.seq {d e:DS} {L' JX:aE} (h:Sn n K L d L') (h':Sn n K L' e JX):Sn n K L (ax d e) JX:=λH loc hh hl=>
 (h H loc hh hl).elim λH₁ ff=>ff.elim λiM ff=>(h' H₁ iM ff.2.1 ff.2.2).imp λU=>dJ λU cX=>⟨aR ff.1 cX.1,cX.2⟩
theorem Sn.fin:Sn n K L aT L:=λH loc h hl=>⟨H,loc,rfl,h,hl⟩
theorem Sn.set {da:DA} {X:aE} (h:Ev n K L a v) (t:Tg n da v X):Sn n K L (ba da a) (X++L):=λH loc hh hl=>wN h hh hl λH₁ aV=>(t H₁ loc L hl).elim λg_ w=>⟨H₁,g_,gH w.1,aV,w.2⟩
theorem Sn.fH {k:Nat} (hk:k<n) (h:Ev n K L a v):Sn n K L (ba (ah k) a) ((k,v)::L):=.set h (.var hk)
theorem Sn.swap {i j:Nat} {x y:V} (hi:i<n) (hj:j<n) (h:Ev n K L a (.tup [x,y])):Sn n K L (gD i j a) ((i,x)::(j,y)::L):=λH loc hh hl=>wN h hh hl λH₁ aV=>⟨H₁,_,rfl,aV,(hl.set j y hj).set i x hi⟩
theorem Sn.expr (h:Ev n K L a v):Sn n K L (fU a) L:=λH loc hh hl=>wN h hh hl λH₁ aV=>⟨H₁,loc,rfl,aV,hl⟩
theorem Sn.aug {k:Nat} {f:V->V->Option V} (hk:k<n) (e:L.lookup k=some x) (h:Ev n K L a y) (o:f x y=some v):Sn n K L (A_ k f a) ((k,v)::L):=λH loc hh hl=>
 wN (Ev.var e) hh hl λH₁ aV=>wN h aV hl λbT cH=>⟨bT,_,gH o,cH,hl.set k v hk⟩
theorem Sn.ite {d e:DS} {L':aE} (ht:j_ n K L t c) (h1:c=true->Sn n K L d L') (h2:c=false->Sn n K L e L'):Sn n K L (j9 t d e) L':=λH loc hh hl=>wN ht hh hl<|match c,h1,h2 with
 |true,h1,_=>λH₁ aV=>h1 rfl H₁ loc aV hl
 |false,_,h2=>λH₁ aV=>h2 rfl H₁ loc aV hl
theorem Sn.zh {d e:DS} {L':aE} (ht:j_ n K L t false) (h2:Sn n K L e L'):Sn n K L (j9 t d e) L':=λH loc hh hl=>wN ht hh hl λH₁ aV=>h2 H₁ loc aV hl
theorem Sn.Pl {d e:DS} {L':aE} (ht:j_ n K L t true) (h1:Sn n K L d L'):Sn n K L (j9 t d e) L':=λH loc hh hl=>wN ht hh hl λH₁ aV=>h1 H₁ loc aV hl
theorem Rt.ite {d e:DS} (ht:j_ n K L t c) (h1:c=true->Rt n K L d v) (h2:c=false->Rt n K L e v):Rt n K L (j9 t d e) v:=λH loc hh hl=>wN ht hh hl<|match c,h1,h2 with
 |true,h1,_=>λH₁ aV=>h1 rfl H₁ loc aV hl
 |false,_,h2=>λH₁ aV=>h2 rfl H₁ loc aV hl
theorem Sn.assert (ht:j_ n K L t true):Sn n K L (tX t) L:=λH loc hh hl=>wN ht hh hl λH₁ aV=>⟨H₁,loc,rfl,aV,hl⟩
theorem Sn.mono {d:DS} {L' JX:aE} (h:Sn n K L d L') (hl:∀k v,JX.lookup k=some v->L'.lookup k=some v):Sn n K L d JX:=λH loc hh AX=>(h H loc hh AX).imp λU=>dJ λU w=>⟨w.1,w.2.1,w.2.2.mono hl⟩
theorem Sn.loop {di:DI} {da:DA} {db:DS} {l:aq} (hi:mI n K L di l) (P:Nat->aE) (h0:∀k v,(P 0).lookup k=some v->L.lookup k=some v)
  (step:∀i x,l[i]?=some x->∃X,Tg n da x X/\Sn n K (X++P i) db (P (i+1))):Sn n K L (gJ di da db) (P l.length):=λH loc hh hl=>wN hi hh hl λH₁ aV=>by
 have key:∀(r:aq) (i:Nat),i+r.length=l.length->l.drop i=r->∀H loc,bP K H->Loc n (P i) loc->∃H' a6,iT da db r ⟨H,loc⟩=some (.next,⟨H',a6⟩)/\bP K H'/\Loc n (P l.length) a6:=by
  intro r
  induction r with
  |nil=>exact λi hi U H loc hH hL=>⟨H,loc,rfl,hH,by rw[<-hi];exact hL⟩
  |cons x r ih=>
   exact λi hi hr H loc hH hL=>(step i x (by rw[<-List.head?_drop,hr];rfl)).elim λX w=>(w.1 H loc _ hL).elim λiM ff=>(w.2 H iM hH ff.2).elim λbT cX=>cX.elim λg_ cX=>
    (ih (i+1) ((Nat.succ_add_eq_add_succ i r.length).trans hi) (by rw[<-List.tail_drop,hr];rfl) bT g_ cX.2.1 cX.2.2).imp λU=>dJ λU uf=>⟨aR ff.1 (aR cX.1 uf.1),uf.2⟩
 exact key l 0 (cc _) rfl H₁ loc aV (hl.mono h0)
def qP:=@List.getElem_range
theorem Fn.of {m k:Nat} {db:DS} (hm:vs.length=m) (h:Rt (m+k) K ((List.range m).zip vs) db v):Fn K (tH m k db) vs v:=λH hh=>by
 have hl:Loc (m+k) ((List.range m).zip vs) (vs.map some++List.replicate k .none):=⟨by simp[hm],λj w e=>by
  have :=lookup_mem e
  obtain⟨i,hi,e⟩:=List.mem_iff_getElem.1 this
  rw[List.getElem_zip]at e
  simp only[qP,l8]at e
  obtain⟨rfl,rfl⟩:=e
  rw[gT,ez]at hi
  rw[ly (by simp;exact KI hi),aQ,bZ (by exact KI hi)];rfl⟩
 obtain⟨H₁,iM,k7,aV⟩:=h H _ hh hl
 exact⟨H₁,(ag hm).trans (aR k7 rfl),aV⟩
end
theorem r6 {H:aj} {a b:V} (h1:jl 8 (cR H a)=true) (h2:jl 8 (cR H b)=true):Nj H a b=some (J1 (cR H a) (cR H b)):=
 (ak (Option.or · (Kw H a b)) (show eqW H a b=some (J1 (cR H a) (cR H b))from ag (by rw[h1,h2];rfl))).trans rfl
theorem xV {H:aj} {a b:V} (h1:jl 8 (cR H a)=true) (h2:jl 8 (cR H b)=true):J3 H a b=some (!J1 (cR H a) (cR H b)):=ag (by rw[h1,h2];rfl)
theorem yA {H:aj} {i j:Int}:Nj H (.int i) (.int j)=some (i==j):=r6 rfl rfl
theorem tO {H:aj} {i j:Int}:J3 H (.int i) (.int j)=some !(i==j):=xV rfl rfl
theorem IQ {H:aj} {i:Int}:J3 H (.int i) (.int i)=some false:=tO.trans (by rw[beq_self_eq_true];rfl)
theorem MA {H:aj} {x y:ar} (h1:(x.all λc=>decide (c<1114112))=true) (h2:(y.all λc=>decide (c<1114112))=true):Nj H (.str x) (.str y)=some (x==y):=(r6 (n7.trans h1) (n7.trans h2)).trans (ak some yn)
theorem DF {H:aj} {l m:aq} (h1:jo 7 l=true) (h2:jo 7 m=true):Nj H (.lst l) (.lst m)=some (AZ l m):=r6 (kF.trans h1) (kF.trans h2)
theorem LX {H:aj} {l m:aq} (h1:jo 7 l=true) (h2:jo 7 m=true):J3 H (.lst l) (.lst m)=some !(AZ l m):=xV (kF.trans h1) (kF.trans h2)
theorem EJ {n:Nat} {l:aq} (h:∀v∈l,jl n v=true):jo n l=true:=by
 induction l with
 |nil=>rfl
 |cons v l ih=>rw[d9,h v cV,ih λv hv=>h v (b9 _ hv)];rfl
section
variable{H:aj} {o v:V} {i j:Int} {k:ar}
theorem tR:xH H (.int i) (.int j)=some (decide (j<i)):=rfl
theorem Jb:gC H o (.int i)=Pn H o i:=rfl
theorem rZ:iN H [v]=(Kn H v).map λ(n:Nat)=>.int n:=rfl
theorem TN:A8 H [v]=(b8 H v).bind λx=>(lg x).map λis=>.int is.sum:=rfl
theorem BH:A9 H [.int i]=if 0<=i/\i<=1114111 then some (.str [i.toNat])else none:=rfl
theorem Dt:k_ H (.str k) [v]=((b8 H v).bind λl=>(qm l).bind λxs=>if(xs.map List.length).sum+xs.length*k.length<=16777216 then some (V.str (cL k xs))else none).map λv=>(v,H):=rfl
theorem IV:uR H (.str k) []=(if k.length<=5592405 then some (V.str (UW k))else none).map λv=>(v,H):=rfl
theorem IW {y:ar}:uS H (.str k) [.str y]=if y.isEmpty=false/\(jK k y).length<=16777216 then some ((jK k y).map .str)else none:=rfl
theorem Mg {y:ar}:UB H (.str y) (.str k)=some (M_ k y):=rfl
theorem gK {m:Nat} {l:aq} (h:H[m]?=some (some (.list l))):dE H m=some l:=by unfold dE;rw[h]
theorem qB {H:aj} {m:Nat} {l:aq} (h:H[m]?=some (some (.list l))):cR H (.ref m)= .lst l:=ak (λo=>Option.elim o (V.ref m) V.lst) (gK h)
theorem tN {b:Int->Int->Prop} [∀i j,Decidable (b i j)] {f:Int->Int->Int} (h:b i j):rG b f (.int i) (.int j)=some (.int (f i j)):=ag h
theorem BW {l:aq}:qm (.str k::l)=(qm l).map (k::·):=rfl
theorem B' {l:aq}:lg (.int i::l)=(lg l).map (i::·):=rfl
end
end
section
def l9:=@Option.some_or
theorem zX {H:aj} {a b:V} {c:Bool} (h:Nj H a b=some c):eqZ H a b=some c:=by simp only[eqZ,AQ,h,l9]
theorem zN {H:aj} {a b:V} {c:Bool} (h:J3 H a b=some c):mG H a b=some c:=by simp only[mG,AQ,h,l9]
theorem Bj {a b:Int} (h:small b=true):h_ (.int a) (.int b)=some (.int (a*b)):=by
 simp only[h_,OD,y_,rG,Ov,h,Bool.or_true,fa,iA,l9]
theorem Bk {a b:Int} (h:small a=true):h_ (.int a) (.int b)=some (.int (a*b)):=by
 simp only[h_,OD,y_,rG,Ov,h,Bool.true_or,fa,iA,l9]
variable{K:HK}
theorem HH (c:Nat) (hc:c<1114112):Fn K fe [.str [c]] (.bool (c==32)):=by
 refine Fn.of rfl (Rt.fst (.ret ?_))
 refine .cmp (x:=.str [c]) (y:=.str [32]) (.var rfl) .con ?_
 ·intro H _
  have a:jl 8 (.str [c])=true:=n7.trans (by rw[kJ,decide_eq_true hc];rfl)
  exact zX ((r6 (a:=.str [c]) (b:=.str [32]) a (n7.trans rfl)).trans (by show some (J1 (.str [c]) (.str [32]))=_;rw[yn];exact ak some (Bool.and_true _)))
theorem aat (c:Nat):Fn K jj [.str [c]] (.bool (jW c)):=by
 exact Fn.of rfl (Rt.fst (.ret (.inSet (.call (.and (.var rfl) .no) λU U=>rfl))))
theorem aar (c:Nat):Fn K iJ [.str [c]] (.str (match A7 c with|some y=>y|none=>Pd [c])):=by
 refine Fn.of rfl (Rt.seq (Sn.fH (by decide) (Ev.ab1 (i:=(c:Int)) ?_)) ?_)
 ·exact .call (.and (.var rfl) .no) λU U=>rfl
 ·cases e:A7 c with
  |some y=>exact Rt.fst (.ite (c:=true) (.cmp (x:=.str y) (y:=.none) (.var rfl) .con λH U=>rfl) (λU=>Rt.fst (.ret (.var rfl))) nofun)
  |none=>exact Rt.seq (Sn.zh (.cmp (x:=.none) (y:=.none) (.var rfl) .con λH U=>rfl) .fin) (Rt.fst (.ret (.sP (s:=[c]) (.var rfl) .no λH U=>rfl)))
noncomputable def mU:List (Int×Int)->(Int->Bool)->(Int->Bool)->Int
 |[],_,_=>0
 |(c,w)::r,lt,gt=>if lt c then-w else if gt c then w else mU r lt gt
theorem BM {c w:Int} {r:List (Int×Int)} {lt gt:Int->Bool}:mU ((c,w)::r) lt gt=if lt c then-w else if gt c then w else mU r lt gt:=rfl
theorem u4 {p:Int×Int} {r:List (Int×Int)} {lt gt:Int->Bool}:mU (p::r) lt gt=if lt p.1 then-p.2 else if gt p.1 then p.2 else mU r lt gt:=rfl
theorem vg {da:DA} {db:DS} {x v:V} {l:aq} {st st₁ st':St} (e:da x st=some st₁) (e':db st₁=some (.ret v,st')):iT da db (x::l) st=some (.ret v,st'):=aR (k:=λst₁=>(db st₁).bind _) e (aR e' rfl)
theorem j8 {da:DA} {db:DS} {x:V} {l:aq} {st st₁ st':St} {r:Option (Fl×St)} (e:da x st=some st₁) (e':db st₁=some (.next,st')) (e'':iT da db l st'=r):iT da db (x::l) st=r:=aR (k:=λst₁=>(db st₁).bind _) e (aR e' e'')
def C_:DS:=ax (ba (ah 5) (aH (aa 1) (aa 3)))
 (ax (ba (ah 6) (aH (aa 2) (aa 3)))
 (ax (j9 (aS ltV (aa 5) (aa 6)) (ax (eB (lN (aa 4)))
 (aT)) (aT))
 (ax (j9 (aS xH (aa 5) (aa 6)) (ax (eB (aa 4))
 (aT)) (aT))
 (aT))))
theorem Cf (keys:List (Int×Int)) (lt gt:Int->Bool) (a b:V) (hx:∀p∈keys,∃x y,(∀H,gC H a (.int p.1)=some x)/\(∀H,gC H b (.int p.1)=some y)/\(∀H,ltV H x y=some (lt p.1))/\(∀H,xH H x y=some (gt p.1))):
  Fn K bU [.cmp (.lst (keys.map λp=>.tup [.int p.1,.int p.2])),a,b] (.int (mU keys lt gt)):=by
 refine Fn.of rfl ?_
 generalize hL:(List.range 3).zip [.cmp (.lst (keys.map λp=>.tup [.int p.1,.int p.2])),a,b]=L
 have h0:L.lookup 0=some (.cmp (.lst (keys.map λp=>.tup [.int p.1,.int p.2]))):=by subst hL;rfl
 have h1:L.lookup 1=some a:=by subst hL;rfl
 have h2:L.lookup 2=some b:=by subst hL;rfl
 have h3:∀k,(L.lookup k).isSome=true->k<3:=λk h=>by
  cases e:L.lookup k with
  |none=>rw[e]at h;cases h
  |some v=>
   have :=lookup_mem e
   subst hL
   have :=(List.of_mem_zip this).1
   simpa using this
 have hb:∀{p:Int×Int} {x y:V} {l:c8},Loc (3+4) ((6,y)::(5,x)::([(4,.int p.2),(3,.int p.1)]++L)) l->Loc (3+4) L l:=λhl=>hl.mono λk v e=>match k,h3 k (by rw[e];rfl)with
  |0,_=>e
  |1,_=>e
  |2,_=>e
 have key:∀(ks:List (Int×Int)),(∀p∈ks,∃x y,(∀H,gC H a (.int p.1)=some x)/\(∀H,gC H b (.int p.1)=some y)/\(∀H,ltV H x y=some (lt p.1))/\(∀H,xH H x y=some (gt p.1)))->∀H loc,bP K H->Loc (3+4) L loc->
   ∃fl H' a6,iT (bx (ao (ah 3) (ao (ah 4) (bf)))) C_ (ks.map λp=>.tup [.int p.1,.int p.2]) ⟨H,loc⟩=some (fl,⟨H',a6⟩)/\bP K H'/\(fl= .ret (.int (mU ks lt gt))\/(fl= .next/\mU ks lt gt=0)):=by
  intro ks
  induction ks with
  |nil=>exact λU H loc hH hL=>⟨.next,H,loc,rfl,hH,.inr ⟨rfl,rfl⟩⟩
  |cons p ks ih=>
   intro hx H loc hH hL
   obtain⟨x,y,hx1,hy1,jT,hgt⟩:=hx p cV
   refine x3 (Tg.two (n:=3+4) (i:=3) (j:=4) (x:=.int p.1) (y:=.int p.2) (by decide) (by decide) H loc L hL) λiM k7 wX=>?_
   have s5:Sn (3+4) K ([(4,.int p.2),(3,.int p.1)]++L) (ba (ah 5) (aH (aa 1) (aa 3))) ((5,x)::([(4,.int p.2),(3,.int p.1)]++L)):=
    .fH (by decide) (.idx (.var h1) (.var rfl) λH U=>hx1 H)
   have s6:Sn (3+4) K ((5,x)::([(4,.int p.2),(3,.int p.1)]++L)) (ba (ah 6) (aH (aa 2) (aa 3))) ((6,y)::(5,x)::([(4,.int p.2),(3,.int p.1)]++L)):=
    .fH (by decide) (.idx (.var h2) (.var rfl) λH U=>hy1 H)
   have t5:j_ (3+4) K ((6,y)::(5,x)::([(4,.int p.2),(3,.int p.1)]++L)) (aS ltV (aa 5) (aa 6)) (lt p.1):=.cmp (.var rfl) (.var rfl) λH U=>jT H
   have t6:j_ (3+4) K ((6,y)::(5,x)::([(4,.int p.2),(3,.int p.1)]++L)) (aS xH (aa 5) (aa 6)) (gt p.1):=.cmp (.var rfl) (.var rfl) λH U=>hgt H
   cases q:lt p.1 with
   |true=>
    rw[q]at t5
    have r:Rt (3+4) K ([(4,.int p.2),(3,.int p.1)]++L) C_ (.int (-p.2)):=Rt.seq s5 (.seq s6 (.fst (.ite t5 (λU=>.fst (.ret (.neg (i:=p.2) (.var rfl)))) nofun)))
    refine x4 (r H iM hH wX) λbT g_ iO cH=>?_
    exact⟨_,bT,g_,vg k7 iO,cH,.inl (by rw[BM,q];rfl)⟩
   |false=>
    rw[q]at t5
    cases q':gt p.1 with
    |true=>
     rw[q']at t6
     have r:Rt (3+4) K ([(4,.int p.2),(3,.int p.1)]++L) C_ (.int p.2):=Rt.seq s5 (.seq s6 (.seq (.zh t5 .fin) (.fst (.ite t6 (λU=>.fst (.ret (v:=.int p.2) (.var rfl))) nofun))))
     refine x4 (r H iM hH wX) λbT g_ iO cH=>?_
     exact⟨_,bT,g_,vg k7 iO,cH,.inl (by rw[BM,q,q'];rfl)⟩
    |false=>
     rw[q']at t6
     have r:Sn (3+4) K ([(4,.int p.2),(3,.int p.1)]++L) C_ _:=Sn.seq s5 (.seq s6 (.seq (.zh t5 .fin) (.seq (.zh t6 .fin) .fin)))
     refine x5 (r H iM hH wX) λbT g_ iO cH Yl=>?_
     obtain⟨fl,PW,Pb,Py,nD⟩:=ih (λp' hp=>hx p' (b9 _ hp)) bT g_ cH (hb Yl)
     exact⟨fl,PW,Pb,j8 k7 iO Py,nD.1,by rw[BM,q,q'];exact nD.2⟩
 intro H loc hH hL
 refine x3 (mI.iter (K:=K) (vs:=keys.map λp=>.tup [.int p.1,.int p.2]) (.sel (.var h0)) rfl H loc hH hL) λH₁ k7 aV=>?_
 refine x6 (key keys hx H₁ loc aV hL) λfl H' a6 e h r=>?_
 rcases r with rfl|⟨rfl,r⟩
 ·exact⟨H',a6,aR (aR k7 e) rfl,h⟩
 ·rw[r];exact⟨H',a6,aR (aR k7 e) rfl,h⟩
end
section
def SK (n:Nat) (K:HK) (L:aE) (d:DS) (K':HK) (L':aE):Prop:=∀H loc,bP K H->Loc n L loc->∃H' a6,d ⟨H,loc⟩=some (.next,⟨H',a6⟩)/\bP K' H'/\Loc n L' a6
def RK (n:Nat) (K:HK) (L:aE) (d:DS) (K':HK) (v:V):Prop:=∀H loc,bP K H->Loc n L loc->∃H' a6,d ⟨H,loc⟩=some (.ret v,⟨H',a6⟩)/\bP K' H'
section
variable{n:Nat} {K K' K'':HK} {L L' JX:aE} {v:V} {d e:DS}
theorem Sn.k (h:Sn n K L d L'):SK n K L d K L':=h
theorem SK.seq (h:SK n K L d K' L') (h':SK n K' L' e K'' JX):SK n K L (ax d e) K'' JX:=λH loc hh hl=>
 (h H loc hh hl).elim λH₁ w=>w.elim λiM w=>(h' H₁ iM w.2.1 w.2.2).imp λU=>dJ λU z=>⟨aR w.1 z.1,z.2⟩
theorem RK.seq (h:SK n K L d K' L') (h':RK n K' L' e K'' v):RK n K L (ax d e) K'' v:=λH loc hh hl=>
 (h H loc hh hl).elim λH₁ w=>w.elim λiM w=>(h' H₁ iM w.2.1 w.2.2).imp λU=>dJ λU z=>⟨aR w.1 z.1,z.2⟩
theorem RK.fst (h:RK n K L d K' v):RK n K L (ax d e) K' v:=λH loc hh hl=>(h H loc hh hl).imp λU=>dJ λU w=>⟨aR w.1 rfl,w.2⟩
theorem SK.mono (h:SK n K L d K' L') (hl:∀k v,JX.lookup k=some v->L'.lookup k=some v):SK n K L d K' JX:=λH loc hh AX=>(h H loc hh AX).imp λU=>dJ λU w=>⟨w.1,w.2.1,w.2.2.mono hl⟩
theorem SK.ite {t:DT} {c:Bool} (ht:j_ n K L t c) (h1:c=true->SK n K L d K' L') (h2:c=false->SK n K L e K' L'):SK n K L (j9 t d e) K' L':=λH loc hh hl=>wN ht hh hl<|match c,h1,h2 with
 |true,h1,_=>λH₁ aV=>h1 rfl H₁ loc aV hl
 |false,_,h2=>λH₁ aV=>h2 rfl H₁ loc aV hl
theorem SK.loop {di:DI} {da:DA} {db:DS} {l:aq} (hi:mI n K L di l) (P:Nat->aE) (R:Nat->HK) (h0:∀k v,(P 0).lookup k=some v->L.lookup k=some v) (r0:R 0=K)
  (step:∀i x,l[i]?=some x->∃X,Tg n da x X/\SK n (R i) (X++P i) db (R (i+1)) (P (i+1))):SK n K L (gJ di da db) (R l.length) (P l.length):=λH loc hh hl=>wN hi hh hl λH₁ aV=>by
 have key:∀(r:aq) (i:Nat),i+r.length=l.length->l.drop i=r->∀H loc,bP (R i) H->Loc n (P i) loc->∃H' a6,iT da db r ⟨H,loc⟩=some (.next,⟨H',a6⟩)/\bP (R l.length) H'/\Loc n (P l.length) a6:=by
  intro r
  induction r with
  |nil=>exact λi hi U H loc hH hL=>⟨H,loc,rfl,by rw[<-hi];exact⟨hH,hL⟩⟩
  |cons x r ih=>
   exact λi hi hr H loc hH hL=>(step i x (by rw[<-List.head?_drop,hr];rfl)).elim λX w=>(w.1 H loc _ hL).elim λiM ff=>(w.2 H iM hH ff.2).elim λbT cX=>cX.elim λg_ cX=>
    (ih (i+1) ((Nat.succ_add_eq_add_succ i r.length).trans hi) (by rw[<-List.tail_drop,hr];rfl) bT g_ cX.2.1 cX.2.2).imp λU=>dJ λU uf=>⟨aR ff.1 (aR cX.1 uf.1),uf.2⟩
 exact key l 0 (cc _) rfl H₁ loc (r0▸aV) (hl.mono h0)
theorem SK.store {o i a:D} {m:Nat} {ob ob':bJ} {x y:V} (ha:Ev n ((m,Is ob)::K) L a v) (ho:Ev n ((m,Is ob)::K) L o x) (hi:Ev n ((m,Is ob)::K) L i y) (hn:∀p∈K,p.1≠m)
  (e:∀H,H[m]?=some (some ob)->wm H x y v=some (H.set m (some ob'))):SK n ((m,Is ob)::K) L (jM o i a) ((m,Is ob')::K) L:=λH loc hh hl=>
 wN ha hh hl λH₁ aV=>wN ho aV hl λbT cH=>wN hi cH hl λwz jI=>have hm:=jI.at;⟨_,loc,gH (e wz hm),jI.drop.upd m ob' _ rfl (bO.1 hm).1 hn,hl⟩
theorem SK.BP {f:V->V->Option V} {o i a:D} {m:Nat} {ob ob':bJ} {x y w z:V} (ho:Ev n ((m,Is ob)::K) L o x) (hi:Ev n ((m,Is ob)::K) L i y) (hw:∀H,H[m]?=some (some ob)->gC H x y=some w) (ha:Ev n ((m,Is ob)::K) L a v) (hf:f w v=some z) (hn:∀p∈K,p.1≠m)
  (e:∀H,H[m]?=some (some ob)->wm H x y z=some (H.set m (some ob'))):SK n ((m,Is ob)::K) L (lr f o i a) ((m,Is ob')::K) L:=λH loc hh hl=>
 wN ho hh hl λH₁ aV=>wN hi aV hl λbT cH=>(wN ha cH hl λwz jI=>have hm:=jI.at;⟨_,loc,aR hf (gH (e wz hm)),jI.drop.upd m ob' _ rfl (bO.1 hm).1 hn,hl⟩:∃H' a6,(a ⟨bT,loc⟩).bind _=some (Fl.next,(⟨H',a6⟩:St))/\bP ((m,Is ob')::K) H'/\Loc n L a6).imp λU=>dJ λU z=>⟨aR (hw bT cH.at) z.1,z.2⟩
theorem Fn.ofK {m k:Nat} {vs:aq} {db:DS} (hm:vs.length=m) (h:∀H loc,bP K H->Loc (m+k) ((List.range m).zip vs) loc->∃H' a6,db ⟨H,loc⟩=some (.ret v,⟨H',a6⟩)/\bP K H'):Fn K (tH m k db) vs v:=Fn.of hm h
theorem RK.newD {k:Nat} (hk:k<n) (h:∀m,(∀p∈K,p.1≠m)->RK n ((m,Is (.dict [] []))::K) ((k,.ref m)::L) e K' v):RK n K L (ax (ba (ah k) qs) e) K' v:=λH loc hh hl=>
 (h H.length (hh.ne (aF _)) (H++[some (.dict [] [])]) (loc.set k (some (.ref H.length))) (hh.new _) (hl.set k _ hk):)
theorem RK.abq {k:Nat} {ds:DL} {us:aq} (hk:k<n) (hd:y2 n K L ds us) (hu:us.length<=16777216) (h:∀m,(∀p∈K,p.1≠m)->RK n ((m,Is (.list us))::K) ((k,.ref m)::L) e K' v):RK n K L (ax (ba (ah k) (iS ds)) e) K' v:=λH loc hh hl=>
 (hd H loc hh hl).elim λH₁ w=>(h H₁.length (w.2.ne (aF _)) (H₁++[some (.list us)]) (loc.set k (some (.ref H₁.length))) (w.2.new _) (hl.set k _ hk)).imp λU=>dJ λU z=>⟨aR (x:=ba (ah k) (iS ds) ⟨H,loc⟩) (aR (x:=iS ds ⟨H,loc⟩) (aR w.1 (ag hu)) rfl) z.1,z.2⟩
theorem N0 {H:aj} {m:Nat} {ks:aG} {l:aq} (h:H[m]?=some (some (.dict ks l))):Vh H (.ref m)=some (.eK ks l,H.set m .none):=by
 have e1:dE H m=none:=by unfold dE;rw[h]
 have e2:gB H m=some (ks,l):=by unfold gB;rw[h]
 show Option.or ((dE H m).map _) ((gB H m).map _)=_
 rw[e1,e2];rfl
theorem CU {H:aj} {m:Nat} {l:aq} (h:H[m]?=some (some (.list l))):Vh H (.ref m)=some (.lst l,H.set m .none):=by
 show Option.or ((dE H m).map _) _=_
 rw[gK h];rfl
theorem RK.fzD {a:D} {m:Nat} {ks:aG} {l:aq} (ha:Ev n ((m,Is (.dict ks l))::K) L a (.ref m)) (hn:∀p∈K,p.1≠m):RK n ((m,Is (.dict ks l))::K) L (eB (Nm a)) K (.eK ks l):=λH loc hh hl=>
 (ha H loc hh hl).elim λH₁ w=>have hm:=w.2.at;⟨_,loc,aR (aR w.1 (gH (N0 hm))) rfl,w.2.drop.set m .none hn⟩
theorem RK.Ni {a:D} {m:Nat} {l:aq} (ha:Ev n ((m,Is (.list l))::K) L a (.ref m)) (hn:∀p∈K,p.1≠m):RK n ((m,Is (.list l))::K) L (eB (Nm a)) K (.lst l):=λH loc hh hl=>
 (ha H loc hh hl).elim λH₁ w=>have hm:=w.2.at;⟨_,loc,aR (aR w.1 (gH (CU hm))) rfl,w.2.drop.set m .none hn⟩
theorem e_ {H:aj} {m:Nat} {l:aq} (h:H[m]?=some (some (.list l))):b8 H (.ref m)=some l:=gK h
theorem SK.append {o a:D} {m:Nat} {l:aq} (ho:Ev n ((m,Is (.list l))::K) L o (.ref m)) (ha:Ev n ((m,Is (.list l))::K) L a v) (AX:l.length<16777216) (hn:∀p∈K,p.1≠m):SK n ((m,Is (.list l))::K) L (fU (bC ry fX o (ae a az))) ((m,Is (.list (l++[v])))::K) L:=λH loc hh hl=>
 (ho H loc hh hl).elim λH₁ ff=>(ha H₁ loc ff.2 hl).elim λbT cX=>
  have hm:=cX.2.at
  have k:ry H₁ (.ref m)=true:=ak Option.isSome (e_ ff.2.at)
  have z:fX bT (.ref m) [v]=some (.none,bT.set m (some (.list (l++[v])))):=aR (x:=dE bT m) (e_ hm) (gH (ag AX))
  ⟨_,loc,aR (aR ff.1 (D0 k (aR (aR cX.1 rfl) (gH z)))) rfl,cX.2.drop.upd m _ _ rfl (bO.1 hm).1 hn,hl⟩
end
theorem oQ {a k:ar} {ks:aG} {x v:V} {l:aq} (q:a≠k):bM (a::ks) (x::l) k v=(a::(bM ks l k v).1,x::(bM ks l k v).2):=af q
theorem qa (ks:aG):∀(l:aq) (k:ar) (v:V),ks.length=l.length->k∉ks->bM ks l k v=(ks++[k],l++[v]):=by
 induction ks with
 |nil=>
  intro l k v h _
  cases q9.1 h.symm
  rfl
 |cons a ks ih=>
  intro l k v h hk
  cases l with
  |nil=>cases h
  |cons x l=>rw[oQ λ(q:a=k)=>hk (q▸cV),ih l k v (iH h) λq=>hk (b9 _ q)];rfl
theorem sZ (ks:aG):∀(l:aq) (k:ar) (v:V),ks.length=l.length->(bM ks l k v).1.length=(bM ks l k v).2.length/\(bM ks l k v).1.length<=ks.length+1:=by
 induction ks with
 |nil=>exact λl k v h=>q9.1 h.symm▸⟨rfl,aF _⟩
 |cons a ks ih=>
  intro l k v h
  cases l with
  |nil=>cases h
  |cons x l=>
   have h':=iH h
   by_cases q:a=k
   ·rw[show bM (a::ks) (x::l) k v=(a::ks,v::l)from ag q];exact⟨h,gM _⟩
   ·rw[oQ q];exact⟨ak Nat.succ (ih l k v h').1,iz (ih l k v h').2⟩
def uL (p u:V):Option V:=((Fv p).bind λx=>(Fv u).bind λy=>if x.length<=100 then(FL x y).map .tup else none).or ((mE p).bind λi=>(mE u).map λj=>.int (j+i))
def eX (acc:aG×aq) (p:ar×V):Option (aG×aq):=(cz acc.1 acc.2 p.1).elim (some (bM acc.1 acc.2 p.1 p.2)) λu=>(uL p.2 u).map λr=>bM acc.1 acc.2 p.1 r
def kD (acc:aG×aq) (l:List (ar×V)):Option (aG×aq):=l.foldlM eX acc
theorem AN {acc a:aG×aq} {p:ar×V} (h:acc.1.length=acc.2.length) (e:eX acc p=some a):a.1.length=a.2.length/\a.1.length<=acc.1.length+1:=by
 unfold eX at e
 cases q:cz acc.1 acc.2 p.1 with
 |none=>rw[q]at e;cases e;exact sZ _ _ _ _ h
 |some u=>rw[q]at e;exact(aO.1 e).elim λr w=>w.2▸sZ _ _ _ _ h
end
section
variable{K:HK}
theorem vS {ks:aG} {l:aq} {i:Nat} {x:V} (h:(cQ ks l)[i]?=some x):∃k v,ks[i]?=some k/\l[i]?=some v/\x= .tup [.str k,v]:=by
 unfold cQ at h
 rw[aQ,aO]at h
 obtain⟨⟨k,v⟩,h,rfl⟩:=h
 rw[gV]at h
 exact⟨k,v,h.1,h.2,rfl⟩
theorem iE {H:aj} {m:Nat} {ks:aG} {l:aq} (h:H[m]?=some (some (.dict ks l))):gB H m=some (ks,l):=by unfold gB;rw[h]
theorem pj {H:aj} {m:Nat} {ks:aG} {l:aq} {k:ar} {v:V} (h:H[m]?=some (some (.dict ks l))) (h1:ks.length=l.length) (h2:ks.length<1000):wm H (.ref m) (.str k) v=some (H.set m (some (.dict (bM ks l k v).1 (bM ks l k v).2))):=
 aR (x:=gB H m) (iE h) (ag ⟨Nat.lt_trans h2 (by decide),h1⟩)
theorem take_succ_get {β:Type} {l:List β} {i:Nat} {x:β} (h:l[i]?=some x):l.take (i+1)=l.take i++[x]:=by
 rw[List.take_add_one,h];rfl
theorem B4 {ks:aG} {i:Nat} {k:ar} (hn:ks.Nodup) (h:ks[i]?=some k):k∉ks.take i:=by
 intro q
 have e:=(jc.1 (mZ (i+1) ks▸hn)).1
 rw[take_succ_get h]at e
 exact(jc.1 e).2.2 k q k (by simp) rfl
theorem tc (x:ar×V) (p:List (ar×V)) (a:aG×aq):kD a (x::p)=(eX a x).bind λb=>kD b p:=rfl
theorem AO (x:ar×V) (p:List (ar×V)) (a:aG×aq):kD a (p++[x])=(kD a p).bind λb=>eX b x:=by
 induction p generalizing a with
 |nil=>
  show(eX a x).bind some=eX a x
  cases eX a x<;>rfl
 |cons y p ih=>
  rw[kP,tc,tc,Option.bind_assoc]
  exact ak (Option.bind _) (funext ih)
theorem Cn (r:List (ar×V)):∀(a c:aG×aq) (h:kD a r=some c) (i:Nat),∃b,kD a (r.take i)=some b:=by
 induction r with
 |nil=>exact λa c h i=>⟨a,by rw[List.take_nil];rfl⟩
 |cons x p ih=>
  intro a c h i
  cases i with
  |zero=>exact⟨a,rfl⟩
  |succ i=>exact(aM.1 h).elim λy w=>(ih y c w.2 i).imp λb k=>aR w.1 k
theorem Co {p:List (ar×V)}:∀{a c:aG×aq},a.1.length=a.2.length->kD a p=some c->c.1.length=c.2.length/\c.1.length<=a.1.length+p.length:=by
 induction p with
 |nil=>exact λh h'=>aP h'▸⟨h,aF _⟩
 |cons x p ih=>exact λh h'=>(aM.1 h').elim λy w=>have l:=AN h w.1;have k:=ih l.1 w.2;⟨k.1,aA k.2 (aA (qX l.2 _) (iG (qR _ _ _)))⟩
theorem JH {v u r:V} (h:uL v u=some r):(∃x y q,v= .tup x/\u= .tup y/\x.length<=100/\FL x y=some q/\r= .tup q)\/∃x y,v= .int x/\u= .int y/\r= .int (y+x):=by
 cases v with
 |tup x=>
  cases u with
  |tup y=>
   obtain⟨hx,e⟩:=tQ (show(if x.length<=100 then(FL x y).map V.tup else none)=some r from(Option.or_none).symm.trans h)
   exact(aO.1 e).elim λq w=>.inl ⟨x,y,q,rfl,rfl,hx,w.1,w.2.symm⟩
  |_=>cases h
 |int x=>
  cases u with
  |int y=>exact .inr ⟨x,y,rfl,rfl,(aP h).symm⟩
  |_=>cases h
 |_=>cases h
theorem oZ (AW:aG) (Fz:aq) (DZ:aG) (Fy:aq) (r:aG×aq) (h1:AW.length=Fz.length) (h2:DZ.length=Fy.length) (n1:AW.Nodup) (hs:AW.length+DZ.length<500)
  (s1:fO AW=true) (s2:fO DZ=true) (hr:kD (AW,Fz) (DZ.zip Fy)=some r):Fn K fQ [.eK AW Fz,.eK DZ Fy] (.eK r.1 r.2):=by
 refine Fn.ofK rfl (RK.newD (K':=K) (by decide) λm hm=>?_)
 generalize hL:(2,V.ref m)::(List.range 2).zip [V.eK AW Fz,.eK DZ Fy]=L
 have l0:L.lookup 0=some (.eK AW Fz):=by subst hL;rfl
 have l1:L.lookup 1=some (.eK DZ Fy):=by subst hL;rfl
 have l2:L.lookup 2=some (.ref m):=by subst hL;rfl
 have fr:∀(a b:V),∀k v,L.lookup k=some v->([(4,b),(3,a)]++L).lookup k=some v:=λa b k v h=>by
  have :k<3:=by
   have :=lookup_mem h
   subst hL
   rcases aC.1 this with q|q
   ·cases q;decide
   ·have :=(List.of_mem_zip q).1;have :=eF.1 this;exact ac6 this
  match k,this with
  |0,_=>exact h
  |1,_=>exact h
  |2,_=>exact h
 refine RK.seq (SK.loop (l:=cQ AW Fz) (P:=λU=>L) (R:=λi=>(m,Is (.dict (AW.take i) (Fz.take i)))::K) (.items (.var l0) h1 s1) (λk v h=>h) rfl λi x hx=>?_) ?_
 ·obtain⟨k,v,hk,hv,rfl⟩:=vS hx
  refine⟨_,Tg.two (by decide) (by decide),SK.seq (SK.store (m:=m) (x:=.ref m) (y:=.str k) (v:=v) (.var rfl) (.var l2) (.var rfl) hm λH hH=>?_) (SK.mono Sn.fin.k (fr _ _))⟩
  have ki:=(bO.1 hk).1
  rw[pj hH (by simp[h1]) (by rw[i_];exact ac5 hs),qa _ _ _ _ (by simp[h1]) (B4 n1 hk),take_succ_get hk,take_succ_get hv]
 ·have e1:(cQ AW Fz).length=AW.length:=by simp[cQ,h1]
  rw[e1,dR (aF _),dR (by exact ac4 h1)]
  generalize hAd:(λi=>(kD (AW,Fz) ((DZ.zip Fy).take i)).getD ([],[]))=A
  have hA:∀i,kD (AW,Fz) ((DZ.zip Fy).take i)=some (A i):=λi=>by
   obtain⟨b,h⟩:=Cn _ _ _ hr i
   subst hAd;simp only[h,oy]
  have A0:A 0=(AW,Fz):=(aP (hA 0)).symm
  have An:A (cQ DZ Fy).length=r:=by
   have :=hA (cQ DZ Fy).length
   rw[dR (by simp[cQ]),hr]at this
   exact(aP this).symm
  refine RK.seq (SK.loop (l:=cQ DZ Fy) (P:=λU=>L) (R:=λi=>(m,Is (.dict (A i).1 (A i).2))::K) (.items (.var l1) h2 s2) (λk v h=>h) (by rw[A0]) λi x hx=>?_) ?_
  ·obtain⟨k,v,hk,hv,rfl⟩:=vS hx
   have hi:=(bO.1 hk).1
   have hz:(DZ.zip Fy)[i]?=some (k,v):=gV.2 ⟨hk,hv⟩
   have hl:=Co h1 (hA i)
   have hAi:(A i).1.length<1000:=by have :=hl.2;simp only[i_,gT]at this;exact ac3 hs this
   have st:eX (A i) (k,v)=some (A (i+1)):=by
    have :=hA (i+1)
    rwa[take_succ_get hz,AO,hA i,iA]at this
   refine⟨_,Tg.two (by decide) (by decide),SK.seq (SK.mono ?_ (fr (.str k) v)) Sn.fin.k⟩
   have g3:([(4,v),(3,V.str k)]++L).lookup 3=some (.str k):=rfl
   have g4:([(4,v),(3,V.str k)]++L).lookup 4=some v:=rfl
   have g2:([(4,v),(3,V.str k)]++L).lookup 2=some (.ref m):=l2
   have ix:∀u,cz (A i).1 (A i).2 k=some u->∀H,H[m]?=some (some (.dict (A i).1 (A i).2))->gC H (.ref m) (.str k)=some u:=λu e H hH=>by
    exact aR (x:=gB H m) (iE hH) e
   have inn:∀H,bP ((m,Is (.dict (A i).1 (A i).2))::K) H->UB H (.str k) (.ref m)=some (cz (A i).1 (A i).2 k).isSome:=λH hH=>by
    exact aR (x:=gB H m) (iE hH.at) (ag hl.1)
   refine SK.ite (.cmp (.var g3) (.var g2) inn) (λhc=>?_) λhc=>?_
   ·obtain⟨u,hu⟩:=m8.1 hc
    unfold eX at st
    rw[hu]at st
    refine x3 (aO.1 st) λr e2 iP=>?_
    refine SK.seq (K':=(m,Is (.dict (A (i+1)).1 (A (i+1)).2))::K) ?_ Sn.fin.k
    have hw:∀H,H[m]?=some (some (.dict (A i).1 (A i).2))->wm H (.ref m) (.str k) r=some (H.set m (some (.dict (A (i+1)).1 (A (i+1)).2))):=λH hH=>(pj hH hl.1 hAi).trans (by rw[iP])
    rcases JH e2 with⟨x,y,q,rfl,rfl,hx,hq,rfl⟩|⟨x,y,rfl,rfl,rfl⟩
    ·exact SK.ite (c:=true) (.Fm (x:=.bool true) (.is (.var g4) λU=>rfl) λU=>rfl) (λU=>SK.seq (SK.store (x:=.ref m) (y:=.str k) (v:=.tup q) (.P8 (p:=x) (q:=y) (.and (.var g4) (.and (.idx (.var g2) (.var g3) λH hH=>ix _ hu H hH.at) .no)) rfl rfl (aA hx (by decide)) hq) (.var g2) (.var g3) hm hw) Sn.fin.k) nofun
    ·exact SK.ite (c:=false) (.Fm (x:=.bool false) (.is (.var g4) λU=>rfl) λU=>rfl) nofun λU=>SK.seq (SK.BP (x:=.ref m) (y:=.str k) (v:=.int x) (w:=.int y) (z:=.int (y+x)) (.var g2) (.var g3) (λH hH=>ix _ hu H hH) (.var g4) rfl hm hw) Sn.fin.k
   ·have hu:cz (A i).1 (A i).2 k=none:=Option.not_isSome_iff_eq_none.1 (by rw[hc];decide)
    unfold eX at st
    rw[hu]at st
    exact SK.seq (K':=(m,Is (.dict (A (i+1)).1 (A (i+1)).2))::K) (SK.store (x:=.ref m) (y:=.str k) (v:=v) (.var g4) (.var g2) (.var g3) hm λH hH=>(pj hH hl.1 hAi).trans (by rw[<-aP st])) Sn.fin.k
  ·rw[An]
   exact RK.fst (RK.fzD (.var l2) hm)
end
theorem si {β:Type} (l:List β) (k:Nat):iR l (k:Int)=l[k]?:=by
 unfold iR;rw[ag (kQ k)];simp
theorem Ap (n k:Nat):clipAt n (k:Int)=min k n:=by
 unfold clipAt;rw[af (by exact Wv)];exact ac2
theorem yq {β:Type} (l:List β) (k:Nat):sl l none (some (k:Int))=l.take k:=by
 simp only[sl,nN,t_,Option.elim_none,Option.elim_some,Ap,List.drop_zero,Nat.sub_zero]
 rw[Nat.min_def];split
 ·rfl
 ·rw[dR (aF _),dR (by exact Wu ‹_›)]
def q0:=@List.drop_of_length_le
theorem Dl {β:Type} (l:List β) (k:Nat):sl l (some (k:Int)) none=l.drop k:=by
 simp only[sl,nN,t_,Option.elim_none,Option.elim_some,Ap]
 rw[Nat.min_def];split
 ·rw[dR (by simp)]
 ·rw[q0 (aF _),q0 (by exact Wu ‹_›)];simp
theorem yv {H:aj} {l:aq} {i:Nat} {v:V} (h:l[i]?=some v):gC H (.lst l) (.int i)=some v:=(si l i).trans h
theorem mY {H:aj} {m:Nat} {l:aq} {i:Nat} {v:V} (hm:H[m]?=some (some (.list l))) (h:l[i]?=some v):gC H (.ref m) (.int i)=some v:=aR (x:=dE H m) (e_ hm) ((si l i).trans h)
theorem kH (a b:Nat) (h:0<b) (h':b<1073741824):fL (.int a) (.int b)=some (.int ((a/b:Nat):Int)):=by
 exact(tN (b:=λU b=>b≠0/\b.natAbs<1073741824) ⟨by exact Wf h,by exact h'⟩).trans (by rw[<-Int.ofNat_fdiv])
theorem eG (a b:Nat) (h:0<b):fw (.int a) (.int b)=some (.int ((a %b:Nat):Int)):=by
 exact(tN (b:=λU b=>b≠0) (by exact Wf h)).trans (by rw[<-Int.ofNat_fmod])
theorem sf {H:aj} {m:Nat} {l:aq} {j:Nat} {v:V} (h:H[m]?=some (some (.list l))) (hj:j<l.length):wm H (.ref m) (.int j) v=some (H.set m (some (.list (l.set j v)))):=by
 refine aR (x:=dE H m) (gK h) ?_
 rw[ag ⟨by exact acC,by exact Wj hj⟩,ag (by exact Wi)]
 rfl
open PySem.StrLaws
def Kf (x y:ar) (hi k:Nat):Prop:=k+y.length<=hi/\(x.drop k).take y.length=y
theorem mV (x y:ar) (hi k:Nat):At (S x) (S y) hi k↔Kf x y hi k:=by
 unfold At Kf
 rw[subAt_eq]
 simp[S,Str.length]
set_option tactic.hygienic true in
theorem II (s sub:Str) (hi limit:Nat):∀(l:ar) (st:Array Nat×Nat),limit<=st.fst.size->(forIn l st (occBody s sub hi limit)).run.fst=st.fst:=by
 intro xx
 induction xx with
 |nil=>
  intro st h
  exact rfl
 |cons a l ih=>
  intro st h
  rw[i7]
  unfold occBody
  split
  ·rename_i hc;have :=hc.1.1.1;omega
  ·exact ih st h
theorem occ_first (s sub:Str) (hi:Nat):∀(m cur free:Nat),free<=cur->((forIn (List.range' cur m) ((#[]:Array Nat),free) (occBody s sub hi 1)).run.fst.toList=[]/\∀k,cur<=k->k<cur+m->¬At s sub hi k)\/
  ∃k,(forIn (List.range' cur m) ((#[]:Array Nat),free) (occBody s sub hi 1)).run.fst.toList=[k]/\cur<=k/\At s sub hi k/\∀k',cur<=k'->k'<k->¬At s sub hi k':=by
 intro xx
 induction xx with
 |zero=>
  intro cur free _
  exact .inl ⟨rfl,λk h1 h2=>absurd (iC h1 h2) (gO _)⟩
 |succ m ih=>
  intro cur free hf
  rw[List.range'_succ,i7]
  unfold occBody
  by_cases hc:At s sub hi cur
  ·rw[ag ⟨⟨⟨by simp,hf⟩,hc.1⟩,hc.2⟩]
   refine .inr ⟨cur,?_,aF _,hc,λk' h1 h2=>absurd (iC h1 h2) (gO _)⟩
   have :=II s sub hi 1 (List.range' (cur+1) m) (#[cur],cur+sub.length) (by simp)
   show(forIn (List.range' (cur+1) m) (#[cur],cur+sub.length) (occBody s sub hi 1)).run.fst.toList=[cur]
   rw[this]
  ·rw[af (λh=>hc ⟨h.1.2,h.2⟩)]
   rcases ih (cur+1) free (by exact Ws hf)with⟨h1,h2⟩|⟨k,h1,h2,h3,h4⟩
   ·refine .inl ⟨h1,λk h3 h4=>?_⟩
    by_cases e:k=cur
    ·subst e;exact hc
    ·exact h2 k (by exact Wr h3 e) (by exact acZ h4)
   ·refine .inr ⟨k,h1,by exact Wq h2,h3,λk' h5 h6=>?_⟩
    by_cases e:k'=cur
    ·subst e;exact hc
    ·exact h4 k' (by exact Wr h5 e) h6
theorem Ah (n k:Nat):fromIndex n (k:Int)=k:=by unfold fromIndex;rw[af (by exact Wv)];exact acY
theorem vp (x y:ar) (i j:Nat) (hj:j<=x.length):(jR x y i j=-1/\∀k,i<=k->¬Kf x y j k)\/∃k:Nat,jR x y i j=(k:Int)/\i<=k/\Kf x y j k/\∀k',i<=k'->k'<k->¬Kf x y j k':=by
 unfold jR
 rw[Ah,Ah,Nat.min_eq_left hj,occ_eq]
 rcases occ_first (S x) (S y) j (j+1-i) i i (aF _)with⟨h1,h2⟩|⟨k,h1,h2,h3,h4⟩
 ·rw[h1]
  refine .inl ⟨rfl,λk hk ha=>?_⟩
  have :=ha.1
  exact h2 k hk (by exact acX this) ((mV _ _ _ _).mpr ha)
 ·rw[h1]
  exact .inr ⟨k,rfl,h2,(mV _ _ _ _).mp h3,λk' h5 h6 ha=>h4 k' h5 h6 ((mV _ _ _ _).mpr ha)⟩
noncomputable def cP:ar:=[46,46,46]
def sV (w:ar):Prop:=46∉w
theorem HQ {x:ar} {hi k:Nat} (h:Kf x cP hi k):x[k]?=some 46:=by
 have :=ak (λl=>l[0]?) h.2
 simpa[cP,List.getElem?_take,List.getElem?_drop]using this
theorem Js {x w r:ar} {a k:Nat} (h:x.drop a=w++r) (h1:a<=k) (h2:k<a+w.length):x[k]?=w[k-a]?:=by
 have :x[k]?=(x.drop a)[k-a]?:=by rw[List.getElem?_drop];congr 1;exact acW h1
 rw[this,h,ly (by exact acV h2 h1)]
theorem G5 {x w r:ar} {a k hi:Nat} (h:x.drop a=w++r) (hw:sV w) (h1:a<=k) (h2:k<a+w.length):¬Kf x cP hi k:=λha=>by
 have e:=HQ ha
 rw[Js h h1 h2]at e
 exact hw (bI e)
theorem parts_nil {x:Str} {w a:Nat}:partsFrom x w a []=[strSub x a x.length]:=rfl
def vJ:=@List.take_append_of_le_length
theorem Iz (x:ar):∀(ws:aG) (F4:ar) (a f:Nat),ws≠[]->(∀w∈ws,sV w)->a<=x.length->x.drop a=cL cP ws->ChainG (S x) (S cP) x.length a F4 f->(∀k,f<=k->¬At (S x) (S cP) x.length k)->
  (partsFrom (S x) 3 a F4).map (λz=>z.cps.toList)=ws:=by
 intro ws
 induction ws with
 |nil=>exact λU U U h=>absurd rfl h
 |cons w ws ih=>
 intro F4 a f _ hw hax hx hc hn
 cases ws with
 |nil=>
  have hx:x.drop a=w++[]:=by rw[hx,join_1,eh]
  have hl:x.length=a+w.length:=by have :=ak List.length hx;simp only[i9,eh]at this;exact acU this hax
  cases F4 with
  |nil=>
   rw[show partsFrom (S x) 3 a []=[strSub (S x) a (S x).length]from rfl,bo,fB,strSub_toList]
   show[((x.drop a).take (x.length-a))]=[w]
   rw[hx,eh,hl,dR (by exact acT)]
  |cons c r=>
   have ha:=(mV _ _ _ _).mp hc.2.1
   refine absurd ha (G5 hx (hw w (by simp)) hc.1 ?_)
   have :=ha.1;simp only[cP,bQ,i8]at this;exact acS this hl
 |cons w' ws=>
  have hx:x.drop a=w++(cP++cL cP (w'::ws)):=by rw[hx,uU,eV]
  have hl:x.length=a+(w.length+(3+(cL cP (w'::ws)).length)):=by have :=ak List.length hx;simp only[i9,bH]at this;simp only[cP,bQ,i8]at this;simp only[cP];exact acR this
  have hd:x.drop (a+w.length)=cP++cL cP (w'::ws):=by
   rw[<-List.drop_drop,hx,List.drop_append_of_le_length (aF _),q0 (aF _)];rfl
  have hA:Kf x cP x.length (a+w.length):=⟨by simp only[cP,bQ,i8];exact acQ hl,by rw[hd,vJ (aF _),dR (aF _)]⟩
  cases F4 with
  |nil=>
   have e:f=a:=hc
   exact absurd ((mV _ _ _ _).mpr hA) (hn _ (by exact acP e))
  |cons c r=>
   have hcA:=(mV _ _ _ _).mp hc.2.1
   have ec:c=a+w.length:=by
    rcases Nat.lt_trichotomy c (a+w.length)with q|q|q
    ·exact absurd hcA (G5 hx (hw w (by simp)) hc.1 q)
    ·exact q
    ·exact absurd ((mV _ _ _ _).mpr hA) (hc.2.2.1 _ (by exact Z25) q)
   subst ec
   have ih:=ih r (a+w.length+3) f (by simp) (λv hv=>hw v (b9 _ hv)) (by exact acO hl) (by
    rw[<-List.drop_drop,hd];rfl) hc.2.2.2 hn
   rw[show partsFrom (S x) 3 a ((a+w.length)::r)=strSub (S x) a (a+w.length)::partsFrom (S x) 3 (a+w.length+3) r from rfl,bo,strSub_toList,ih]
   show((x.drop a).take (a+w.length-a))::_=_
   rw[hx,Nat.add_sub_cancel_left,vJ (aF _),dR (aF _)]
theorem ET (x:Str):(decide (strKind x<strKind (S cP)))=false:=by
 have :strKind (S cP)=1:=by simp[Str.strKind,S,cP]
 rw[this,decide_eq_false_iff_not]
 unfold Str.strKind;split
 ·decide
 ·split<;>decide
theorem Es (ws:aG) (h2:2<=ws.length) (hw:∀w∈ws,sV w):jK (cL cP ws) cP=ws:=by
 refine x3 (occ_tight (S (cL cP ws)) (S cP) (by decide)) λf hG hn=>?_
 have ne:ws≠[]:=by intro q;subst q;simp at h2
 have p:=Iz (cL cP ws) ws _ 0 f ne hw (bN _) rfl hG hn
 have l3:3<=(cL cP ws).length:=by
  match ws,h2 with
  |a::b::r,_=>simp[uU,cP];exact acN
 unfold jK Txt.split
 rw[ET]
 rw[af (by simp[S,Str.length,cP];simpa[cP]using l3)]
 rw[af ?_]
 ·rw[partsBetween_eq];exact p
 ·intro q
  rw[show(occurrences (S (cL cP ws)) (S cP) 0 (S (cL cP ws)).length ((S (cL cP ws)).length+1))=[]from List.isEmpty_iff.1 q]at p
  simp only[parts_nil,bo,fB]at p
  have :=ak List.length p
  simp at this;exact acM this h2
theorem I9 (ws:aG) (h2:2<=ws.length):M_ (cL cP ws) cP=true:=by
 unfold M_
 have :=(found_iff (S (cL cP ws)) (S cP)).mpr
 refine this ?_
 match ws,h2 with
 |a::b::r,_=>
  refine⟨a.length,?_⟩
  have :StrLaws.At (S (cL cP (a::b::r))) (S cP) (cL cP (a::b::r)).length a.length:=(mV _ _ _ _).mpr ⟨by simp[uU,cP],by
   simp only[uU,eV]
   rw[List.drop_append_of_le_length (aF _),q0 (aF _),jA,vJ (aF _),dR (aF _)]⟩
  exact this
theorem Sk (w:ar) (hw:sV w):M_ w cP=false:=by
 cases e:M_ w cP with
 |false=>rfl
 |true=>
  obtain⟨i,h⟩:=(found_iff (S w) (S cP)).mp e
  have :At (S w) (S cP) w.length i:=h
  exact absurd (bI (HQ ((mV _ _ _ _).mp this))) hw
section
variable{n:Nat} {K K':HK} {L L':aE}
def mT (g:ar):aG->Nat->Nat->Bool
 |[],_,_=>true
 |w::ws,s,e=>if jR g w s e<0 then false else mT g ws ((jR g w s e).toNat+w.length) e
def FF (g:ar) (X:aG) (l:ar) (s:Nat):Bool:=
 if l.isEmpty then decide (s<=g.length)&&mT g (X++[l]) s g.length else uI g l&&(decide (s<=g.length-l.length)&&mT g X s (g.length-l.length))
def Nk (w0:ar) (mid:aG) (l g:ar):Bool:=if w0.isEmpty then FF g (w0::mid) l 0 else o6 g w0&&FF g mid l w0.length
theorem RK.abp {k:Nat} {f:aj->V->aq->Option aq} {o:D} {ds:DL} {s:ar} {vs us:aq} {e:DS} {v:V} (hk:k<n) (ho:Ev n K L o (.str s)) (hd:y2 n K L ds vs) (hf:∀H,f H (.str s) vs=some us) (h:∀m,(∀p∈K,p.1≠m)->RK n ((m,Is (.list us))::K) ((k,.ref m)::L) e K' v):
  RK n K L (ax (ba (ah k) (u3 nH f o ds)) e) K' v:=λH loc hh hl=>by
 refine x3 (ho H loc hh hl) λH₁ k7 aV=>?_
 refine x3 (hd H₁ loc aV hl) λbT iO cH=>?_
 refine x4 (h bT.length (cH.ne (aF _)) (bT++[some (.list us)]) (loc.set k (some (.ref bT.length))) (cH.new _) (hl.set k _ hk)) λH' l' e' h'=>?_
 exact⟨H',l',by simp only[ax,ba,u3,k7,iO,hf bT,nH,fa,ah,iA,iw];exact e',h'⟩
theorem RK.Kr {t:DT} {c:Bool} {d e f:DS} {v:V} (ht:j_ n K L t c) (h1:c=true->RK n K L (ax d f) K' v) (h2:c=false->RK n K L (ax e f) K' v):RK n K L (ax (j9 t d e) f) K' v:=λH loc hh hl=>by
 refine x3 (ht H loc hh hl) λH₁ k7 aV=>?_
 cases c with
 |true=>refine x4 (h1 rfl H₁ loc aV hl) λbT g_ iO cH=>?_;exact⟨bT,g_,by show((t ⟨H,loc⟩).bind λx=>if x.1=true then d x.2 else e x.2).bind _=_;rw[k7];exact iO,cH⟩
 |false=>refine x4 (h2 rfl H₁ loc aV hl) λbT g_ iO cH=>?_;exact⟨bT,g_,by show((t ⟨H,loc⟩).bind λx=>if x.1=true then d x.2 else e x.2).bind _=_;rw[k7];exact iO,cH⟩
theorem RK.of {d:DS} {v:V} (h:Rt n K L d v) (hk:∀p∈K',p∈K):RK n K L d K' v:=λH loc hh hl=>by
 refine x4 (h H loc hh hl) λH₁ iM k7 aV=>?_
 exact⟨H₁,iM,k7,λp hp=>aV p (hk p hp)⟩
theorem RK.assoc {a b c:DS} {v:V} (h:RK n K L (ax a (ax b c)) K' v):RK n K L (ax (ax a b) c) K' v:=λH loc hh hl=>by
 refine x4 (h H loc hh hl) λH₁ iM k7 aV=>?_
 refine⟨H₁,iM,?_,aV⟩
 rw[<-k7]
 unfold ax
 cases a ⟨H,loc⟩with
 |none=>rfl
 |some x=>
  obtain⟨f,s⟩:=x
  cases f<;>rfl
theorem RK.end {c:DS} {v:V} (h:RK n K L c K' v):RK n K L (ax aT c) K' v:=h
theorem SK.del {o i:D} {m:Nat} {l:aq} {j:Int} {k:Nat} (ho:Ev n ((m,Is (.list l))::K) L o (.ref m)) (hi:Ev n ((m,Is (.list l))::K) L i (.int j)) (hj:-(l.length:Int)<=j/\j<l.length) (hk:(if 0<=j then j.toNat else(j+l.length).toNat)=k) (hn:∀p∈K,p.1≠m):SK n ((m,Is (.list l))::K) L (Ed o i) ((m,Is (.list (l.eraseIdx k)))::K) L:=λH loc hh hl=>by
 refine x3 (ho H loc hh hl) λH₁ k7 aV=>?_
 refine x3 (hi H₁ loc aV hl) λbT iO cH=>?_
 have hm:=cH.at
 refine⟨_,loc,?_,cH.drop.upd m _ _ rfl (bO.1 hm).1 hn,hl⟩
 exact aR k7 (aR iO (gH (x:=PB bT (.ref m) (.int j)) (aR (x:=dE bT m) (gK hm) ((ag hj).trans (by rw[hk])))))
theorem RK.ZU {k m:Nat} {t:DT} {c:Bool} {d e:DS} {l:aq} {v:V} (hk:k<n) (ho:L.lookup k=some (.ref m)) (hn:∀p∈K,p.1≠m) (ht:j_ n ((m,Is (.list l))::K) L t c)
  (h1:c=true->Rt n ((m,Is (.list l))::K) L d v) (h1':c=true->∀H loc H' a6,bP ((m,Is (.list l))::K) H->Loc n L loc->d ⟨H,loc⟩=some (.ret v,⟨H',a6⟩)->a6=loc) (h2:c=false->RK n K ((k,.lst l)::L) e K v):RK n ((m,Is (.list l))::K) L (ax (tn k (j9 t d aT)) e) K v:=λH loc hh hl=>by
 refine x3 (ht H loc hh hl) λH₁ k7 aV=>?_
 have e0:loc[k]?=some (some (.ref m)):=hl.2 k _ ho
 cases c with
 |true=>
  refine x4 (h1 rfl H₁ loc aV hl) λbT g_ iO cH=>?_
  have :=h1' rfl H₁ loc bT g_ aV hl iO
  subst this
  have hm:=cH.at
  exact⟨bT.set m .none,g_.set k (some (.lst l)),aR (aR (aR k7 iO) (gH (x:=Internal.Ni k ⟨bT,g_⟩) (aR (ak Option.join e0) (gH (CU hm))))) rfl,cH.drop.set m .none hn⟩
 |false=>
  have hm:=aV.at
  refine x4 (h2 rfl (H₁.set m .none) (loc.set k (some (.lst l))) (aV.drop.set m .none hn) (hl.set k _ hk)) λbT g_ iO cH=>?_
  exact⟨bT,g_,aR (aR (aR k7 rfl) (gH (x:=Internal.Ni k ⟨H₁,loc⟩) (aR (ak Option.join e0) (gH (CU hm))))) iO,cH⟩
def ELL:V:=.str cP
theorem MF (g:ar) (e:Nat) (L:aE) (h1:L.lookup 1=some (.str g)) (h4:L.lookup 4=some (.int e)) (he:e<=g.length) (h3:L.lookup 3=none) (h5:L.lookup 5=none) (ws:aG):∀(s:Nat) H loc,bP K H->Loc (2+6) ((3,.int s)::L) loc->
  ∃fl H' a6,iT (ah 5) uA (ws.map .str) ⟨H,loc⟩=some (fl,⟨H',a6⟩)/\bP K H'/\((mT g ws s e=true/\fl= .next)\/(mT g ws s e=false/\fl= .ret (.bool false))):=by
 induction ws with
 |nil=>exact λs H loc hh hl=>⟨.next,H,loc,rfl,hh,.inl ⟨rfl,rfl⟩⟩
 |cons w ws ih=>
  intro s H loc hh hl
  have wX:=hl.set 5 (.str w) (by decide)
  have E:Ev (2+6) K ((5,.str w)::(3,.int s)::L) (bC nH CH (aa 1) (ae (aa 5) (ae (aa 3) (ae (aa 4) (az))))) (.int (jR g w s e)):=.sP (s:=g) (vs:=[.str w,.int s,.int e]) (.var h1) (.and (.var rfl) (.and (.var rfl) (.and (.var h4) .no))) λH U=>rfl
  have T:j_ (2+6) K ((3,.int (jR g w s e))::(5,.str w)::(3,.int s)::L) (aS ltV (aa 3) (dC (.int 0))) (decide (jR g w s e<0)):=.cmp (.var rfl) .con λH U=>rfl
  by_cases q:jR g w s e<0
  ·rw[decide_eq_true q]at T
   have r:Rt (2+6) K ((5,.str w)::(3,.int s)::L) uA (.bool false):=.seq (.fH (by decide) E) (.fst (.ite T (λU=>.fst (.ret .con)) nofun))
   refine x4 (r H _ hh wX) λbT g_ iO cH=>?_
   exact⟨.ret (.bool false),bT,g_,vg rfl iO,cH,.inr ⟨ag q,rfl⟩⟩
  ·rw[decide_eq_false q]at T
   obtain⟨k,hk⟩:∃k:Nat,jR g w s e=(k:Int):=by
    rcases vp g w s e he with h|⟨k,h,_⟩
    ·rw[h.1]at q;exact absurd (by decide) q
    ·exact⟨k,h⟩
   have r:Sn (2+6) K ((5,.str w)::(3,.int s)::L) uA ((3,.int ((k+w.length:Nat):Int))::(3,.int (jR g w s e))::(5,.str w)::(3,.int s)::L):=
    .seq (.fH (by decide) E) (.seq (.zh T .fin) (.seq (.aug (x:=.int (jR g w s e)) (y:=.int w.length) (by decide) rfl (.call (.and (.var rfl) .no) λH U=>rfl) (by rw[hk];rfl)) .fin))
   refine x5 (r H _ hh wX) λbT g_ iO cH k₂=>?_
   have Pc:=k₂.mono (L':=(3,.int ((k+w.length:Nat):Int))::L) λj v h=>by
    by_cases q3:j=3
    ·subst q3;exact h
    ·have b3:(j==3)=false:=bu.2 q3
     by_cases q5:j=5
     ·subst q5
      exact nomatch h5.symm.trans h
     ·have b5:(j==5)=false:=bu.2 q5
      rw[bG,b3]at h
      rw[bG,b3,bG,b3,bG,b5,bG,b3];exact h
   obtain⟨fl,PW,Pb,Py,nD⟩:=ih (k+w.length) bT _ cH Pc
   exact⟨fl,PW,Pb,j8 rfl iO Py,nD.1,by rw[show mT g (w::ws) s e=_ from(af q).trans (by rw[hk])];exact nD.2⟩
def e_1:DS:=ax (ba (ah 5) (aH (aa 2) (lN (dC (.int 1)))))
 (ax (j9 (nF (aa 5)) (ax (j9 (nF (bC nH CJ (aa 1) (ae (aa 5) az))) (ax (A_ 4 gI (a5 iN (ae (aa 5) az)))
 (ax (Ed (aa 2) (lN (dC (.int 1))))
 aT)) (ax (eB (dC (.bool false)))
 aT))
 aT) aT)
 (ax (tn 2 (j9 (aS xH (aa 3) (aa 4)) (ax (eB (dC (.bool false)))
 aT) aT))
 (ax (gJ (cI (aa 2)) (ah 5) uA)
 (ax (eB (dC (.bool true)))
 aT))))
theorem DG {m:Nat} {K:HK} (hm:∀p∈K,p.1≠m) (g:ar) (X:aG) (l:ar) (s:Nat) (L:aE) (h1:L.lookup 1=some (.str g)) (h2:L.lookup 2=some (.ref m)) (h3:L.lookup 3=some (.int s)) (h4:L.lookup 4=some (.int g.length)):
  RK (2+6) ((m,Is (.list ((X++[l]).map .str)))::K) L e_1 K (.bool (FF g X l s)):=by
 refine RK.seq (Sn.fH (v:=.str l) (by decide) (.idx (x:=.ref m) (y:=.int (-1)) (.var h2) (.neg .con) λH h=>?_)).k ?_
 ·have :=h.at
  simp only[Jb,Sl,dE,this,iA,iR]
  rw[af (by decide),ag (by simp;exact acI)]
  rw[show(-1+(((X++[l]).map V.str).length:Int)).toNat=X.length by simp;exact Wo,cF,oM (by simp)]
  simp
 have rest:∀(FQ:aG) (en:Nat) (L:aE) (res:Bool),L.lookup 1=some (.str g)->L.lookup 2=some (.ref m)->L.lookup 3=some (.int s)->L.lookup 4=some (.int en)->en<=g.length->res=(decide (s<=en)&&mT g FQ s en)->
   RK (2+6) ((m,Is (.list (FQ.map .str)))::K) L (ax (tn 2 (j9 (aS xH (aa 3) (aa 4)) (ax (eB (dC (.bool false)))
 (aT)) (aT)))
 (ax (gJ (cI (aa 2)) (ah 5) uA)
 (ax (eB (dC (.bool true)))
 (aT)))) K (.bool res):=λFQ en L res h1 h2 h3 h4 hen Kt=>by
  refine RK.ZU (c:=decide (en<s)) (by decide) h2 hm (.cmp (.var h3) (.var h4) λH U=>?_) (λhc=>?_) (λhc H loc H' a6 U U e=>?_) λhc=>?_
  ·simp only[tR];congr 1;rw[decide_eq_decide];exact acH
  ·have :=of_decide_eq_true hc
   rw[Kt,decide_eq_false (by exact acG this),kK]
   exact Rt.fst (.ret .con)
  ·exact(ak (λx=>x.2.loc) (aP (show some (Fl.ret (.bool false),(⟨H,loc⟩:Internal.St))=some (_,⟨H',a6⟩)from e))).symm
  ·have :=of_decide_eq_false hc
   rw[decide_eq_true (by exact Wn this),Bool.true_and]at Kt
   intro H loc hh hl
   have e2:loc[2]?=some (some (.lst (FQ.map .str))):=hl.2 2 _ rfl
   have AX:Loc (2+6) ((3,.int (s:Int))::[(1,.str g),(4,.int (en:Int))]) loc:=hl.mono λk v h=>by
    match k with
    |0=>exact absurd h (by simp[bG])
    |1=>exact(show L.lookup 1=_ from h1.trans h)
    |2=>exact absurd h (by simp[bG])
    |3=>exact(show L.lookup 3=_ from h3.trans h)
    |4=>exact(show L.lookup 4=_ from h4.trans h)
    |k+5=>exact absurd h (by simp[bG])
   refine x6 (MF (K:=K) g en [(1,.str g),(4,.int (en:Int))] rfl rfl hen rfl rfl FQ s H loc hh AX) λfl H' a6 e h r=>?_
   have e3:gJ (cI (aa 2)) (ah 5) uA ⟨H,loc⟩=some (fl,⟨H',a6⟩):=aR (x:=cI (aa 2) ⟨H,loc⟩) (aR (x:=aa 2 ⟨H,loc⟩) (gH (ak Option.join e2)) rfl) e
   rcases r with⟨r,rfl⟩|⟨r,rfl⟩
   ·exact⟨H',a6,by rw[Kt,r];exact aR e3 rfl,h⟩
   ·exact⟨H',a6,by rw[Kt,r];exact aR e3 rfl,h⟩
 have look:∀{k:Nat} {v:V},L.lookup k=some v->(k==5)=false->((5,V.str l)::L).lookup k=some v:=λ{k v} h e=>by rw[bG,e];exact h
 refine RK.Kr (c:=!l.isEmpty) (.Fm (x:=.str l) (.var rfl) λH=>rfl) (λhl=>RK.assoc ?_) λhl=>RK.end ?_
 ·have hl0:l.isEmpty=false:=by simpa using hl
  refine RK.Kr (c:=uI g l) (.Fm (x:=.bool (uI g l)) (.sP (s:=g) (vs:=[.str l]) (.var (look h1 rfl)) (.and (.var rfl) .no) λH U=>rfl) λH=>rfl) (λrH=>?_) λrH=>?_
  rotate_left 1
  ·refine RK.of ?_ λp hp=>b9 _ hp
   have :FF g X l s=false:=by simp only[FF,hl0,rH,kK,fE,d8]
   rw[this]
   exact Rt.fst (Rt.fst (.ret .con))
  have hle:l.length<=g.length:=by
   unfold uI at rH;rw[bp,iB]at rH;exact rH.1
  refine RK.assoc (RK.seq (Sn.aug (v:=.int ((g.length-l.length:Nat):Int)) (x:=.int g.length) (y:=.int l.length) (by decide) (look h4 rfl) (.call (.and (.var rfl) .no) λH U=>rfl) ?_).k (RK.assoc (RK.seq (SK.del (j:=-1) (k:=X.length) (.var (look h2 rfl)) (.neg .con) ⟨by simp;exact acF,by simp;exact acE⟩ (by simp;exact Wo) hm) (RK.end (RK.end ?_)))))
  ·show some (V.int ((g.length:Int)-l.length))=_
   congr 2;exact acD hle
  ·have e:((X++[l]).map V.str).eraseIdx X.length=X.map .str:=by
    rw[cF,List.eraseIdx_append_of_length_le (by simp)];simp
   rw[e]
   refine rest X (g.length-l.length) _ _ (look h1 rfl) (look h2 rfl) (look h3 rfl) rfl (by exact ac0) ?_
   simp only[FF,rH,hl0,fE,d8,Bool.true_and]
 ·have hl0:l.isEmpty=true:=by simpa using hl
  refine rest (X++[l]) g.length _ _ (look h1 rfl) (look h2 rfl) (look h3 rfl) (look h4 rfl) (aF _) ?_
  simp only[FF,hl0,fa]
theorem MG (w0:ar) (mid:aG) (l g:ar) (hd:∀w∈w0::mid++[l],sV w) (hs:mid.length<=100):Fn K a8 [.str (cL cP (w0::mid++[l])),.str g] (.bool (Nk w0 mid l g)):=by
 refine Fn.ofK rfl ?_
 have l2:2<=(w0::mid++[l]).length:=by simp
 show RK (2+6) K _ eJ K _
 unfold eJ
 refine RK.seq (Sn.zh (.cmp (x:=ELL) (y:=.str (cL cP (w0::mid++[l]))) .con (.var rfl) λH U=>?_) .fin).k ?_
 ·show some (!M_ (cL cP (w0::mid++[l])) cP)=_
  rw[I9 _ l2];rfl
 refine RK.abp (us:=(w0::mid++[l]).map .str) (by decide) (.var rfl) (.and .con .no) (λH=>?_) λm hm=>?_
 ·show uS H (.str _) [.str cP]=_
  simp only[IW,Es _ l2 hd]
  rw[ag ⟨rfl,by simp;exact acL hs⟩]
 refine RK.seq (Sn.assert (.cmp (x:=.int ((w0::mid++[l]).length)) (y:=.int 2) (.call (.and (.var rfl) .no) λH h=>?_) .con λH U=>?_)).k ?_
 ·have :=h.at
  simp only[rZ,R7,dE,this,iw,aD]
 ·exact ak some (decide_eq_true (gN.2 l2))
 refine RK.seq (Sn.swap (x:=.int 0) (y:=.int g.length) (by decide) (by decide) (.tup (.and .con (.and (.call (.and (.var rfl) .no) λH U=>rfl) .no)) (ay rfl))).k ?_
 refine RK.seq (Sn.fH (v:=.str w0) (by decide) (.idx (x:=.ref m) (y:=.int 0) (.var rfl) .con λH h=>mY (i:=0) h.at rfl)).k ?_
 refine RK.Kr (c:=!w0.isEmpty) (.Fm (x:=.str w0) (.var rfl) λH=>rfl) (λh0=>RK.assoc ?_) λh0=>RK.end ?_
 ·have h0:w0.isEmpty=false:=by simpa using h0
  refine RK.Kr (c:=o6 g w0) (.Fm (x:=.bool (o6 g w0)) (.sP (s:=g) (vs:=[.str w0]) (.var rfl) (.and (.var rfl) .no) λH U=>rfl) λH=>rfl) (λiP=>?_) λiP=>?_
  rotate_left 1
  ·refine RK.of ?_ λp hp=>b9 _ hp
   have :Nk w0 mid l g=false:=by simp only[Nk,h0,iP,kK,fE,d8]
   rw[this]
   exact Rt.fst (Rt.fst (.ret .con))
  refine RK.assoc (RK.seq (Sn.fH (v:=.int w0.length) (by decide) (.call (.and (.var rfl) .no) λH U=>rfl)).k (RK.assoc (RK.seq (SK.del (j:=0) (k:=0) (.var rfl) .con ⟨by simp;exact acK,by simp;exact acJ⟩ rfl hm) (RK.end (RK.end ?_)))))
  rw[show((w0::mid++[l]).map V.str).eraseIdx 0=(mid++[l]).map .str from rfl,show Nk w0 mid l g=FF g mid l w0.length by simp only[Nk,h0,iP,Bool.true_and,fE,d8]]
  exact DG hm g mid l w0.length _ rfl rfl rfl rfl
 ·have h0:w0.isEmpty=true:=by simpa using h0
  rw[show Nk w0 mid l g=FF g (w0::mid) l 0 by simp only[Nk,h0,fa]]
  exact DG hm g (w0::mid) l 0 _ rfl rfl rfl rfl
end
section
variable{n:Nat} {K K':HK} {L L':aE}
def Small (w:ar):Prop:=w.all (λc=>decide (c<1114112))=true
theorem Al (w g:ar) (hw:sV w) (sw:Small w) (sg:Small g):Fn K a8 [.str w,.str g] (.bool (w==g)):=by
 refine Fn.of rfl ?_
 show Rt (2+6) K _ eJ _
 unfold eJ
 refine Rt.fst (.ite (c:=true) (.cmp (x:=ELL) (y:=.str w) .con (.var rfl) λH U=>?_) (λU=>Rt.fst (.ret (.cmp (x:=.str w) (y:=.str g) (.var rfl) (.var rfl) λH U=>zX (MA sw sg)))) λh=>by cases h)
 show(UB H (.str cP) (.str w)).map _=_
 simp only[Mg,Sk _ hw,iw];rfl
noncomputable def zB (g w:ar) (s e:Nat):Option Nat:=(List.range (e+1)).find? λk=>Nat.ble s k&&(Nat.ble (k+w.length) e&&((g.drop k).take w.length==w))
noncomputable def Vi (g:ar):aG->Nat->Nat->Bool
 |[],_,_=>true
 |w::ws,s,e=>(zB g w s e).elim false λk=>Vi g ws (k+w.length) e
def fN:=@Nat.ble_eq
def kM:=@List.find?_some
theorem Jl (g w:ar) (s e:Nat) (he:e<=g.length):jR g w s e=(zB g w s e).elim (-1) λk=>(k:Int):=by
 have at_:∀k,(Nat.ble s k&&(Nat.ble (k+w.length) e&&((g.drop k).take w.length==w)))=true↔s<=k/\Kf g w e k:=λk=>by
  rw[bp,bp,fN,fN,beq_iff_eq];exact Iff.rfl
 unfold zB
 cases q:(List.range (e+1)).find? λk=>Nat.ble s k&&(Nat.ble (k+w.length) e&&((g.drop k).take w.length==w))with
 |none=>
  rcases vp g w s e he with h|⟨k,h1,h2,h3,_⟩
  ·exact h.1
  ·exact absurd ((at_ k).mpr ⟨h2,h3⟩) (by have :=List.find?_eq_none.1 q k (eF.2 (Nat.lt_succ_of_le (aA (f7 _ _) h3.1)));simpa using this)
 |some j=>
  have hj:=(at_ j).mp (kM (p:=λk=>Nat.ble s k&&(Nat.ble (k+w.length) e&&((g.drop k).take w.length==w))) q)
  rcases vp g w s e he with h|⟨k,h1,h2,h3,h4⟩
  ·exact absurd hj.2 (h.2 j hj.1)
  ·rw[h1]
   refine ak Int.ofNat (kO (ja λz=>h4 j hj.1 z hj.2) (ja λz=>?_))
   obtain⟨_,as,bs,e1,e2⟩:=List.find?_eq_some_iff_append.1 q
   have mk:k∈as:=by
    have hp:=List.pairwise_lt_range (n:=e+1)
    have m:k∈as++j::bs:=e1▸eF.2 (Nat.lt_succ_of_le (aA (f7 _ _) h3.1))
    rw[e1,List.pairwise_append]at hp
    rcases bF.1 m with m|m
    ·exact m
    ·rcases aC.1 m with m|m
     ·exact absurd m (df z)
     ·exact absurd ((jd.1 hp.2.1).1 k m) (Nat.lt_asymm z)
   have :=e2 k mk
   rw[(at_ k).mpr ⟨h2,h3⟩]at this
   cases this
theorem xw (g:ar) (e:Nat) (he:e<=g.length) (ws:aG):∀s,mT g ws s e=Vi g ws s e:=by
 induction ws with
 |nil=>exact λU=>rfl
 |cons w ws ih=>
  intro s
  show(if jR g w s e<0 then false else mT g ws ((jR g w s e).toNat+w.length) e)=(zB g w s e).elim false λk=>Vi g ws (k+w.length) e
  rw[Jl g w s e he]
  cases zB g w s e with
  |none=>rfl
  |some k=>exact(af (jv.2 (kQ k))).trans (ih _)
def emR (g:ar) (X:aG) (l:ar) (s:Nat):Bool:=
 if l.isEmpty then Nat.ble s g.length&&Vi g (X++[l]) s g.length else uI g l&&(Nat.ble s (g.length-l.length)&&Vi g X s (g.length-l.length))
def kT:=@decide_eq_true_iff
theorem Ht (g:ar) (X:aG) (l:ar) (s:Nat):FF g X l s=emR g X l s:=by
 have b:∀x y:Nat,decide (x<=y)=Nat.ble x y:=λx y=>by rw[iu,kT,fN]
 unfold FF emR
 rw[b,b,xw g _ (aF _),xw g _ (Nat.sub_le _ _)]
def ox:=@List.cons_ne_nil
def emW:aG->ar->Bool
 |[],_=>false
 |[w],g=>w==g
 |w0::w1::r,g=>if w0.isEmpty then emR g (w0::(w1::r).dropLast) ((w1::r).getLast (ox _ _)) 0 else o6 g w0&&emR g (w1::r).dropLast ((w1::r).getLast (ox _ _)) w0.length
theorem N5 (ws:aG) (g:ar) (h0:ws≠[]) (hd:∀w∈ws,sV w) (hs:∀w∈ws,Small w) (hg:Small g) (hl:ws.length<=100):Fn K a8 [.str (cL cP ws),.str g] (.bool (emW ws g)):=by
 match ws,h0 with
 |[w],_=>exact(show cL cP [w]=w from rfl)▸Al w g (hd w (.head _)) (hs w (.head _)) hg
 |w0::w1::r,_=>
  have e:w0::w1::r=w0::(w1::r).dropLast++[(w1::r).getLast (ox _ _)]:=ak (w0::·) (List.dropLast_concat_getLast (ox w1 r)).symm
  have :=MG (K:=K) w0 (w1::r).dropLast ((w1::r).getLast (ox _ _)) g (λw hw=>hd w (by rw[e];exact hw)) (by rw[List.length_dropLast];exact aA (Nat.sub_le _ _) (Nat.le_of_succ_le hl))
  rw[<-e]at this
  unfold Nk at this
  rw[Ht,Ht]at this
  exact this
end
set_option genSizeOf true
set_option genInjectivity true
section
noncomputable abbrev M:=Nat×Nat×Nat
noncomputable def dg (m:M):Nat:=m.1+m.2.1+m.2.2
noncomputable def gG (l m:M):Bool:=Nat.ble l.1 m.1&&(Nat.ble l.2.1 m.2.1&&Nat.ble l.2.2 m.2.2)
noncomputable def ad (x y:M):M:=(x.1+y.1,x.2.1+y.2.1,x.2.2+y.2.2)
noncomputable def JK (x y:M):M:=(x.1-y.1,x.2.1-y.2.1,x.2.2-y.2.2)
noncomputable def lc (x y:M):M:=(max x.1 y.1,max x.2.1 y.2.1,max x.2.2 y.2.2)
theorem pK {x y:M} (h1:x.1=y.1) (h2:x.2.1=y.2.1) (h3:x.2.2=y.2.2):x=y:=by
 obtain⟨a,b,c⟩:=x;obtain⟨d,e,f⟩:=y;cases h1;cases h2;cases h3;rfl
theorem eR {l m:M}:gG l m=true↔l.1<=m.1/\l.2.1<=m.2.1/\l.2.2<=m.2.2:=by simp only[gG,bp,fN]
theorem w7 {l m:M} (h:gG l m=true):ad (JK m l) l=m:=have h:=eR.1 h;pK (Nat.sub_add_cancel h.1) (Nat.sub_add_cancel h.2.1) (Nat.sub_add_cancel h.2.2)
theorem W8 (q l:M):JK (ad q l) l=q:=pK (qS ..) (qS ..) (qS ..)
theorem rh (x y z:M):ad (ad x y) z=ad x (ad y z):=pK (iq ..) (iq ..) (iq ..)
theorem t8 (x y:M):ad x y=ad y x:=pK (gq ..) (gq ..) (gq ..)
theorem ko (x y:M):dg (ad x y)=dg x+dg y:=by simp only[dg,ad];exact Y1
theorem R9 (q l:M):gG l (ad q l)=true:=eR.2 ⟨kN ..,kN ..,kN ..⟩
theorem Pj (x y:M):gG x (lc x y)=true:=eR.2 ⟨Nat.le_max_left ..,Nat.le_max_left ..,Nat.le_max_left ..⟩
theorem Ph (x y:M):gG y (lc x y)=true:=eR.2 ⟨Nat.le_max_right ..,Nat.le_max_right ..,Nat.le_max_right ..⟩
theorem R_ {x y m:M} (h:gG x m=true) (k:gG y m=true):gG (lc x y) m=true:=have h:=eR.1 h;have k:=eR.1 k;eR.2 ⟨Nat.max_le.2 ⟨h.1,k.1⟩,Nat.max_le.2 ⟨h.2.1,k.2.1⟩,Nat.max_le.2 ⟨h.2.2,k.2.2⟩⟩
theorem ES {x y z:M} (h:gG x y=true) (k:gG y z=true):gG x z=true:=have h:=eR.1 h;have k:=eR.1 k;eR.2 ⟨aA h.1 k.1,aA h.2.1 k.2.1,aA h.2.2 k.2.2⟩
theorem Hf {x y:M} (h:gG x y=true):dg x<=dg y:=by rw[<-w7 h,ko];exact kN ..
noncomputable def dS (n:Nat):List M:=(List.range (n+1)).flatMap λa=>(List.range (n+1-a)).map λb=>(a,b,n-a-b)
theorem eD {n:Nat} {m:M}:m∈dS n↔dg m=n:=by
 obtain⟨a,b,c⟩:=m
 simp only[dS,f6,eF,aY,l8,dg]
 constructor
 ·rintro⟨x,hx,y,hy,rfl,rfl,rfl⟩;exact Y2 hy
 ·intro h;exact⟨a,by exact Y3 h,b,by exact Y4 h,rfl,rfl,by exact Y5 h⟩
abbrev Rl:=M×M
def ap (ρ:Rl) (m:M):M:=ad (JK m ρ.1) ρ.2
theorem Ox {ρ:Rl} {m:M} (q:M) (h:gG ρ.1 m=true):ap ρ (ad q m)=ad q (ap ρ m):=by
 have e:=w7 h
 unfold ap
 rw[<-rh]
 refine ak (ad · ρ.2) ?_
 conv=>lhs;rw[<-e,<-rh,W8]
theorem sU {ρ:Rl} {m:M} (hd:dg ρ.1=dg ρ.2) (h:gG ρ.1 m=true):dg (ap ρ m)=dg m:=by
 conv=>rhs;rw[<-w7 h]
 rw[ap,ko,ko,hd]
def Sp1 (R:List Rl) (x y:M):Prop:=∃ρ∈R,gG ρ.1 x=true/\y=ap ρ x
inductive Sr (R:List Rl):M->M->Prop
 |rf (x):Sr R x x
 |st {x y z}:Sp1 R x y->Sr R y z->Sr R x z
theorem Sr.trans {R:List Rl} {x y z:M} (h:Sr R x y) (k:Sr R y z):Sr R x z:=by
 induction h with
 |rf=>exact k
 |st s _ ih=>exact .st s (ih k)
theorem Sr.mono {R R':List Rl} (le:∀ρ∈R,ρ∈R') {x y:M} (h:Sr R x y):Sr R' x y:=by
 induction h with
 |rf=>exact .rf _
 |st s _ ih=>exact .st (s.imp λρ w=>⟨le ρ w.1,w.2⟩) ih
theorem Sr.mul {R:List Rl} (q:M) {x y:M} (h:Sr R x y):Sr R (ad q x) (ad q y):=by
 induction h with
 |rf=>exact .rf _
 |st s _ ih=>
  obtain⟨ρ,hr,hl,rfl⟩:=s
  exact .st ⟨ρ,hr,ES hl (R9 _ _),(Ox q hl).symm⟩ ih
def Jn (R:List Rl) (x y:M):Prop:=∃z,Sr R x z/\Sr R y z
theorem Jn.mono {R R':List Rl} (le:∀ρ∈R,ρ∈R') {x y:M} (h:Jn R x y):Jn R' x y:=h.imp λU w=>⟨w.1.mono le,w.2.mono le⟩
theorem Jn.mul {R:List Rl} (q:M) {x y:M} (h:Jn R x y):Jn R (ad q x) (ad q y):=h.elim λz w=>⟨ad q z,w.1.mul q,w.2.mul q⟩
theorem Jn.symm {R:List Rl} {x y:M} (h:Jn R x y):Jn R y x:=h.imp λU w=>⟨w.2,w.1⟩
def Kd (R:List Rl) (m:M):Prop:=∀ρ∈R,gG ρ.1 m=false
theorem Kd.st {R:List Rl} {x y:M} (h:Kd R x) (s:Sr R x y):y=x:=by
 cases s with
 |rf=>rfl
 |st s _=>refine w4 (s) λρ hr hl U=>?_;rw[h ρ hr]at hl;cases hl
section
variable(W:M->Int)
def Ok1 (ρ:Rl):Prop:=dg ρ.1=dg ρ.2/\W ρ.2<W ρ.1
def FH (R:List Rl):Prop:=∀ρ∈R,Ok1 W ρ
variable{W} (nO:∀x y,W (ad x y)=W x+W y)
include nO
theorem zM {ρ:Rl} {m:M} (o:Ok1 W ρ) (h:gG ρ.1 m=true):W (ap ρ m)<W m:=by
 conv=>rhs;rw[<-w7 h]
 rw[ap,nO,nO];exact Int.add_lt_add_left o.2 _
theorem Sr.low {R:List Rl} (o:FH W R) {x y:M} (h:Sr R x y):dg y=dg x/\W y<=W x:=by
 induction h with
 |rf=>exact⟨rfl,Int.le_refl _⟩
 |st s _ ih=>
  obtain⟨ρ,hr,hl,rfl⟩:=s
  exact⟨ih.1.trans (sU (o ρ hr).1 hl),Int.le_trans ih.2 (lW (zM nO (o ρ hr) hl))⟩
omit nO
def rk (W:M->Int) (m:M):Nat:=((dS (dg m)).filter λx=>decide (W x<W m)).length
theorem TM {α:Type} {p q:α->Bool} (l:List α) (h:∀x∈l,p x=true->q x=true):(l.filter p).length<=(l.filter q).length:=by
 rw[<-List.countP_eq_length_filter,<-List.countP_eq_length_filter];exact List.countP_mono_left h
theorem BE {α:Type} {p q:α->Bool} {a:α}:∀(l:List α),(∀x∈l,p x=true->q x=true)->a∈l->q a=true->p a=false->(l.filter p).length<(l.filter q).length:=by
 intro xx
 induction xx with
 |nil=>
  intro z1 z2 z3 z4
  first|(cases z1;done)|(cases z2;done)|(cases z3;done)|(cases z4;done)
 |cons x l ih=>
  intro h m ha hb
  have h':∀y∈l,p y=true->q y=true:=λy hy=>h y (.tail _ hy)
  rcases aC.1 m with rfl|m
  ·rw[my ha,q8 (by rw[hb];decide)]
   exact Nat.lt_succ_of_le (TM l h')
  ·have ih:=ih h' m ha hb
   cases e:p x with
   |true=>rw[my e,my (h x (.head _) e)];exact Nat.succ_lt_succ ih
   |false=>
    rw[q8 (by rw[e];decide)]
    exact je ih (List.Sublist.length_le ((List.sublist_cons_self x l).filter q))
theorem NC {x y:M} (hd:dg y=dg x) (h:W y<W x):rk W y<rk W x:=by
 unfold rk
 rw[hd]
 exact BE (a:=y) _ (λz U e=>decide_eq_true (kI (of_decide_eq_true e) h)) (eD.2 hd) (decide_eq_true h) (decide_eq_false (Int.lt_irrefl _))
theorem W9 {x:M} (h:dg x<=4):rk W x<15:=by
 have z:(dS (dg x)).length<=15:=by
  match dg x,h with
  |0,_=>decide
  |1,_=>decide
  |2,_=>decide
  |3,_=>decide
  |4,_=>decide
 have :=BE (p:=λy=>decide (W y<W x)) (q:=λU=>true) (a:=x) (dS (dg x)) (λU U U=>rfl) (eD.2 rfl) rfl (decide_eq_false (Int.lt_irrefl _))
 rw[List.filter_eq_self.2 λU U=>rfl]at this
 exact je this z
include nO
theorem ab5 {R:List Rl} (o:FH W R) {top:Nat} (lo:∀ρ∈R,∀σ∈R,dg (lc ρ.1 σ.1)<=top->Jn R (ap ρ (lc ρ.1 σ.1)) (ap σ (lc ρ.1 σ.1))):∀(n:Nat) (x y z:M),rk W x<n->dg x<=top->Sr R x y->Sr R x z->Jn R y z:=by
 intro xx
 induction xx with
 |zero=>
  intro _ _ _ h _ _ _
  exact nomatch h
 |succ n ih=>
  intro x y z h hd hy hz
  cases hy with
  |rf=>exact⟨z,hz,.rf _⟩
  |@st _ y1 _ sy hy=>
   cases hz with
   |rf=>exact⟨y,.rf _,.st sy hy⟩
   |@st _ z1 _ sz hz=>
    obtain⟨ρ,hr,hl,rfl⟩:=sy
    obtain⟨σ,hs,hm,rfl⟩:=sz
    have hq:=R_ hl hm
    have key:∀τ∈R,gG τ.1 (lc ρ.1 σ.1)=true->ap τ x=ad (JK x (lc ρ.1 σ.1)) (ap τ (lc ρ.1 σ.1)):=λτ U ht=>by
     conv=>lhs;rw[<-w7 hq]
     exact Ox _ ht
    refine x3 ((lo ρ hr σ hs (aA (Hf hq) hd)).mul (JK x (lc ρ.1 σ.1))) λw j1 j2=>?_
    rw[<-key ρ hr (Pj _ _)]at j1
    rw[<-key σ hs (Ph _ _)]at j2
    have dn:∀τ∈R,gG τ.1 x=true->rk W (ap τ x)<n/\dg (ap τ x)<=top:=λτ ht hl=>⟨je (NC (sU (o τ ht).1 hl) (zM nO (o τ ht) hl)) (Nat.le_of_lt_succ h),(sU (o τ ht).1 hl).symm▸hd⟩
    have a:=dn ρ hr hl
    have b:=dn σ hs hm
    refine x3 (ih _ _ _ a.1 a.2 hy j1) λu u1 u2=>?_
    refine x3 (ih _ _ _ b.1 b.2 hz (j2.trans u2)) λv v1 v2=>?_
    exact⟨v,u1.trans v2,v1⟩
omit nO
def te (rs:List Rl):Nat->M->List Rl
 |0,_=>[]
 |n+1,m=>(rs.find? λρ=>gG ρ.1 m).elim [] λρ=>ρ::te rs n (ap ρ m)
theorem uB {rs:List Rl} {n:Nat} {m:M}:te rs (n+1) m=(rs.find? λρ=>gG ρ.1 m).elim [] λρ=>ρ::te rs n (ap ρ m):=rfl
def run (t:List Rl) (m:M):M:=t.foldl (λm ρ=>ap ρ m) m
def dn (rs:List Rl) (m:M):M:=run (te rs 15 m) m
def pf:=@List.mem_of_find?_eq_some
theorem uN {rs R:List Rl} (le:∀ρ∈rs,ρ∈R):∀(n:Nat) (m:M),Sr R m (run (te rs n m) m):=by
 intro xx
 induction xx with
 |zero=>
  intro m
  exact .rf m
 |succ n ih=>
  intro m
  rw[uB]
  cases e:rs.find? λρ=>gG ρ.1 m with
  |none=>exact .rf m
  |some ρ=>exact .st ⟨ρ,le ρ (pf e),kM (p:=λρ:Rl=>gG ρ.1 m) e,rfl⟩ (ih (ap ρ m))
include nO
theorem K5 {rs R:List Rl} (o:FH W R) (le:∀ρ,ρ∈rs↔ρ∈R):∀(n:Nat) (m:M),rk W m<n->Kd R (run (te rs n m) m):=by
 intro xx
 induction xx with
 |zero=>
  intro m h
  exact nomatch h
 |succ n ih=>
  intro m h
  rw[uB]
  cases e:rs.find? λρ=>gG ρ.1 m with
  |none=>exact λρ hr=>by show gG ρ.1 m=false;simpa using List.find?_eq_none.1 e ρ ((le ρ).mpr hr)
  |some ρ=>
   have hr:=(le ρ).mp (pf e)
   have hl:=kM (p:=λρ:Rl=>gG ρ.1 m) e
   exact ih (ap ρ m) (je (NC (sU (o ρ hr).1 hl) (zM nO (o ρ hr) hl)) (Nat.le_of_lt_succ h))
theorem BI {rs R:List Rl} (o:FH W R) (le:∀ρ,ρ∈rs↔ρ∈R) {m:M} (h:dg m<=4):Kd R (dn rs m):=K5 nO o le 15 m (W9 h)
theorem aaa {rs R:List Rl} (o:FH W R) (le:∀ρ,ρ∈rs↔ρ∈R) {top:Nat} (h4:top<=4) (lo:∀ρ∈R,∀σ∈R,dg (lc ρ.1 σ.1)<=top->Jn R (ap ρ (lc ρ.1 σ.1)) (ap σ (lc ρ.1 σ.1))) {x y:M} (hx:dg x<=top) (hy:dg y<=top) (j:Jn R x y):dn rs x=dn rs y:=by
 have cf:=ab5 nO o lo
 refine x3 (j) λz h1 h2=>?_
 have sx:=uN (λρ h=>(le ρ).mp h) 15 x
 have sy:=uN (λρ h=>(le ρ).mp h) 15 y
 have ix:=BI nO o le (aA hx h4)
 have iy:=BI nO o le (aA hy h4)
 refine x3 (cf _ x _ _ (jb _) hx sx h1) λu u1 u2=>?_
 rw[ix.st u1]at u2
 refine x3 (cf _ y _ _ (jb _) hy sy (h2.trans u2)) λv v1 v2=>?_
 exact(ix.st v2).symm.trans (iy.st v1)
end
end
section
def DY (ρ σ:Rl):M×M:=(ap ρ (lc ρ.1 σ.1),ap σ (lc ρ.1 σ.1))
abbrev eY:=List (M×M)
def jm (top:Nat) (R:List Rl) (ν:Rl):eY:=(R.filter λρ=>Nat.ble (dg (lc ρ.1 ν.1)) top).map λρ=>DY ρ ν
def lL:List M:=dS 2++dS 3++dS 4
theorem dH {m:M}:m∈lL↔2<=dg m/\dg m<=4:=by
 simp only[lL,bF,eD];exact Y6
def zi (R:List Rl) (m:M):Bool:=R.all λρ=>!gG ρ.1 m
theorem I7 {R:List Rl} {m:M}:zi R m=true↔Kd R m:=by simp only[zi,aI,mh,Kd]
section
variable(W:M->Int) (F:M->M) (top:Nat)
def Cg (p:M×M):Prop:=∀q,dg q+dg p.1<=top->F (ad q p.1)=F (ad q p.2)
structure Cm (dr:eY) (R:List Rl) (wt:eY):Prop where
 ru:FH W R
 hi:∀ρ∈R,2<=dg ρ.1/\dg ρ.1<=top
 nd:(R.map (·.1)).Nodup
 sd:∀ρ∈R,Cg F top ρ
 wd:∀p∈wt,dg p.1=dg p.2/\(2<=dg p.1/\dg p.1<=top)/\Cg F top p
 dj:∀p∈dr,p∈wt\/Jn R p.1 p.2
 cj:∀ρ∈R,∀σ∈R,dg (lc ρ.1 σ.1)<=top->DY ρ σ∈wt\/DY σ ρ∈wt\/Jn R (DY ρ σ).1 (DY ρ σ).2
 ct:R.length+(lL.filter (zi R)).length<=31
variable{W F top} {dr:eY} {R:List Rl} {wt:eY} {p:M×M} {x y g l:M}
theorem Cg.ap {ρ:Rl} (h:Cg F top ρ) {m q:M} (hl:gG ρ.1 m=true) (hd:dg q+dg m<=top):F (ad q m)=F (ad q (ap ρ m)):=by
 have e:=w7 hl
 have :=h (ad q (JK m ρ.1)) (by rw[ko,iq,<-ko,e];exact hd)
 rwa[rh,rh,e]at this
theorem Sr.cg (sd:∀ρ∈R,Cg F top ρ) (ru:FH W R) (h:Sr R x y) {q:M}:dg q+dg x<=top->F (ad q x)=F (ad q y):=by
 induction h with
 |rf=>exact λU=>rfl
 |st s _ ih=>
  obtain⟨ρ,hr,hl,rfl⟩:=s
  exact λhd=>((sd ρ hr).ap hl hd).trans (ih (by rw[sU (ru ρ hr).1 hl];exact hd))
theorem Jn.rU (h:Jn R p.1 p.2) {q:M×M} (k:q∈p::wt):q∈wt\/Jn R q.1 q.2:=(aC.1 k).elim (λe=>.inr (e▸h)) .inl
theorem Dv (x y:M):lc x y=lc y x:=pK (Nat.max_comm ..) (Nat.max_comm ..) (Nat.max_comm ..)
theorem Jn.sw {ρ σ:Rl} (h:Jn R (DY σ ρ).1 (DY σ ρ).2):Jn R (DY ρ σ).1 (DY ρ σ).2:=by unfold DY at *;rw[Dv];exact h.symm
theorem Cm.pop (c:Cm W F top dr R (p::wt)) (j:Jn R p.1 p.2):Cm W F top dr R wt:=
 ⟨c.ru,c.hi,c.nd,c.sd,λq hq=>c.wd q (.tail _ hq),λq hq=>(c.dj q hq).elim (λk=>j.rU k) .inr,
  λρ hr σ hs hd=>(c.cj ρ hr σ hs hd).elim (λk=>(j.rU k).imp id .inr) λk=>k.elim (λk=>.inr ((j.rU k).imp id Jn.sw)) λk=>.inr (.inr k),c.ct⟩
theorem Cm.new (c:Cm W F top dr R (p::wt)) (h4:top<=4) (nO:∀x y,W (ad x y)=W x+W y) (sx:Sr R p.1 x) (sy:Sr R p.2 y) (AR:(g=x/\l=y)\/(g=y/\l=x)) (hw:W l<W g) (ig:Kd R g):Cm W F top dr (R++[(g,l)]) (wt++jm top R (g,l)):=by
 refine y3 (c.wd p (.head _)) λpd pt pc=>?_
 have dx:=(sx.low nO c.ru).1
 have dy:=(sy.low nO c.ru).1
 have Vl:dg g=dg p.1/\dg g=dg l:=by rcases AR with⟨rfl,rfl⟩|⟨rfl,rfl⟩<;>(first|exact Y7 dx pd dy|exact Y8 dx pd dy)
 have le:∀ρ∈R,ρ∈R++[(g,l)]:=λρ h=>j5 _ h
 have nu:(g,l)∈R++[(g,l)]:=iD _ (.head _)
 have sg:Sp1 (R++[(g,l)]) g l:=⟨(g,l),nu,eR.2 ⟨aF _,aF _,aF _⟩,by show l=ad (JK g g) l;exact pK (by simp[ad,JK]) (by simp[ad,JK]) (by simp[ad,JK])⟩
 have j:Jn (R++[(g,l)]) p.1 p.2:=by
  rcases AR with⟨rfl,rfl⟩|⟨rfl,rfl⟩
  ·exact⟨_,(sx.mono le).trans (.st sg (.rf _)),sy.mono le⟩
  ·exact⟨_,sx.mono le,(sy.mono le).trans (.st sg (.rf _))⟩
 have cg:Cg F top (g,l):=λq hq=>by
  have hq:dg q+dg p.1<=top:=by rw[<-Vl.1];exact hq
  have e1:=sx.cg c.sd c.ru hq
  have e2:=sy.cg c.sd c.ru (q:=q) (by rw[<-pd];exact hq)
  have e3:=pc q hq
  rcases AR with⟨rfl,rfl⟩|⟨rfl,rfl⟩
  ·exact e1.symm.trans (e3.trans e2)
  ·exact e2.symm.trans (e3.symm.trans e1)
 have snoc:∀{P:Rl->Prop},(∀ρ∈R,P ρ)->P (g,l)->∀ρ∈R++[(g,l)],P ρ:=λh k ρ hr=>(bF.1 hr).elim (h ρ) λe=>a7.1 e▸k
 have sd:=snoc c.sd cg
 have ru:FH W (R++[(g,l)]):=snoc c.ru ⟨Vl.2,hw⟩
 have hi:=snoc (P:=λρ=>2<=dg ρ.1/\dg ρ.1<=top) c.hi (by show 2<=dg g/\dg g<=top;rw[Vl.1];exact pt)
 refine⟨ru,hi,?_,sd,λq hq=>?_,λq hq=>?_,λρ hr σ hs hd=>?_,?_⟩
 ·rw[cF,jc]
  refine⟨c.nd,fZ.2 ⟨bh,gy⟩,λa ha b hb e=>?_⟩
  obtain⟨ρ,hr,rfl⟩:=aY.1 ha
  have :=ig ρ hr
  rw[e,a7.1 hb,eR.2 ⟨aF _,aF _,aF _⟩]at this
  cases this
 ·rcases bF.1 hq with hq|hq
  ·exact c.wd q (.tail _ hq)
  ·obtain⟨ρ,hr,rfl⟩:=aY.1 hq
   obtain⟨hr,hd⟩:=oj.1 hr
   have hd:=ay hd
   have l1:=Pj ρ.1 g
   have l2:=Ph ρ.1 g
   have d1:dg (DY ρ (g,l)).1=_:=sU (c.ru ρ hr).1 l1
   have d2:dg (DY ρ (g,l)).2=_:=sU (ρ:=(g,l)) Vl.2 l2
   exact⟨d1.trans d2.symm,by rw[d1];exact⟨aA (c.hi ρ hr).1 (Hf l1),hd⟩,λq hq=>have hq:=d1▸hq;((c.sd ρ hr).ap l1 hq).symm.trans (cg.ap l2 hq)⟩
 ·exact(c.dj q hq).elim (λk=>(j.rU k).imp (j5 _) id) λk=>.inr (k.mono le)
 ·rcases bF.1 hr with hr|hr<;>rcases bF.1 hs with hs|hs
  ·exact(c.cj ρ hr σ hs hd).elim (λk=>(j.rU k).imp (j5 _) .inr) λk=>k.elim (λk=>.inr ((j.rU k).imp (j5 _) Jn.sw)) λk=>.inr (.inr (k.mono le))
  ·cases a7.1 hs
   exact .inl (iD _ (aY.2 ⟨ρ,oj.2 ⟨hr,fN▸hd⟩,rfl⟩))
  ·cases a7.1 hr
   refine .inr (.inl (iD _ (aY.2 ⟨σ,oj.2 ⟨hs,fN▸?_⟩,rfl⟩)))
   rw[Dv];exact hd
  ·cases a7.1 hr;cases a7.1 hs
   exact .inr (.inr ⟨_,.rf _,.rf _⟩)
 ·have b:∀m,zi (R++[(g,l)]) m=(zi R m&&!gG g m):=λm=>by simp[zi]
  have :=BE (p:=zi (R++[(g,l)])) (q:=zi R) (a:=g) lL (λm U h=>by rw[b]at h;exact(aX.1 h).1) (dH.2 (by rw[Vl.1];exact⟨pt.1,aA pt.2 h4⟩)) (I7.2 ig) (by rw[b,eR.2 ⟨aF _,aF _,aF _⟩,Bool.not_true,og])
  have :=c.ct
  rw[bH]
  show R.length+1+_<=31
  exact Y9 this ‹_›
theorem Cm.start (h:∀p∈dr,dg p.1=dg p.2/\(2<=dg p.1/\dg p.1<=top)/\Cg F top p):Cm W F top dr [] dr:=
 ⟨nofun,nofun,gy,nofun,h,λp hp=>.inl hp,nofun,by decide⟩
abbrev Tk:=(M×M)×M
def sx (t:Tk):M:=ad t.1.1 t.2
def sy (t:Tk):M:=ad t.1.2 t.2
def xE (W:M->Int) (F:M->M) (t:Tk):M×M:=if W (F (sy t))<W (F (sx t))then(F (sy t),F (sx t))else(F (sx t),F (sy t))
def upd (W:M->Int) (F:M->M) (t:Tk):M->M:=λx=>if F x=(xE W F t).2 then(xE W F t).1 else F x
structure FI (W:M->Int) (F:M->M) (T:List Tk):Prop where
 lo:∀x,dg (F x)=dg x/\W (F x)<=W x/\F (F x)=F x
 eq:∀t∈T,F (sx t)=F (sy t)
 un:∀r:M->M,(∀t∈T,r (sx t)=r (sy t))->∀x,r (F x)=r x
set_option tactic.hygienic true in
theorem G' (W:M->Int) (F:M->M) (t:Tk):((xE W F t).1=F (sx t)/\(xE W F t).2=F (sy t)\/(xE W F t).1=F (sy t)/\(xE W F t).2=F (sx t))/\W (xE W F t).1<=W (xE W F t).2:=by
 unfold xE
 split
 ·rename_i h;exact⟨.inr ⟨rfl,rfl⟩,lW h⟩
 ·rename_i h;exact⟨.inl ⟨rfl,rfl⟩,jv.1 h⟩
theorem FI.upd {T:List Tk} (f:FI W F T) {t:Tk} (ht:dg t.1.1=dg t.1.2):FI W (upd W F t) (T++[t]):=by
 obtain⟨hs,hw⟩:=G' W F t
 generalize hp:xE W F t=s at hs hw
 have e:∀x,Internal.upd W F t x=if F x=s.2 then s.1 else F x:=λx=>by unfold Internal.upd;rw[hp]
 have d2:dg (sx t)=dg (sy t):=by unfold sx sy;rw[ko,ko,ht]
 have fs:F s.1=s.1/\dg s.1=dg s.2:=by
  rcases hs with⟨a,b⟩|⟨a,b⟩<;>rw[a,b]
  ·exact⟨(f.lo _).2.2,by rw[(f.lo _).1,(f.lo _).1,d2]⟩
  ·exact⟨(f.lo _).2.2,by rw[(f.lo _).1,(f.lo _).1,d2]⟩
 refine⟨λx=>?_,λu hu=>?_,λr hr x=>?_⟩
 ·rw[e]
  by_cases q:F x=s.2
  ·rw[ag q,e,fs.1]
   refine⟨fs.2.trans (q▸(f.lo x).1),Int.le_trans hw (q▸(f.lo x).2.1),?_⟩
   by_cases z:s.1=s.2
   ·rw[ag z]
   ·rw[af z]
  ·rw[af q,e,(f.lo x).2.2,af q]
   exact⟨(f.lo x).1,(f.lo x).2.1,rfl⟩
 ·rw[e,e]
  rcases bF.1 hu with hu|hu
  ·rw[f.eq u hu]
  ·rw[a7.1 hu]
   rcases hs with⟨a,b⟩|⟨a,b⟩
   ·rw[<-a,<-b,ag rfl]
    by_cases z:s.1=s.2
    ·rw[ag z]
    ·rw[af z]
   ·rw[<-a,<-b,ag rfl]
    by_cases z:s.1=s.2
    ·rw[ag z]
    ·rw[af z]
 ·have k:=f.un r λu hu=>hr u (j5 _ hu)
  rw[e]
  by_cases q:F x=s.2
  ·rw[ag q]
   have z:=hr t (iD _ (.head _))
   rw[<-k (sx t),<-k (sy t)]at z
   refine Eq.trans ?_ (k x)
   rw[q]
   rcases hs with⟨a,b⟩|⟨a,b⟩
   ·rw[a,b];exact z
   ·rw[a,b];exact z.symm
  ·rw[af q];exact k x
theorem FI.start (W:M->Int):FI W id []:=⟨λx=>⟨rfl,Int.le_refl _,rfl⟩,nofun,λU U U=>rfl⟩
theorem settled {T:List Tk} (c:Cm W F top dr R []) (f:FI W F T) (hT:∀t∈T,t.1∈dr/\dg t.2+dg t.1.1<=top/\dg t.1.1=dg t.1.2) (h4:top<=4) (nO:∀x y,W (ad x y)=W x+W y) {rs:List Rl} (le:∀ρ,ρ∈rs↔ρ∈R) {m:M} (hm:dg m<=top):dn rs m=F m:=by
 have lo:∀ρ∈R,∀σ∈R,dg (lc ρ.1 σ.1)<=top->Jn R (ap ρ (lc ρ.1 σ.1)) (ap σ (lc ρ.1 σ.1)):=λρ hr σ hs hd=>(c.cj ρ hr σ hs hd).elim (λk=>nomatch k) λk=>k.elim (λk=>nomatch k) id
 have eq:=λ{x y} hx hy=>aaa nO c.ru le h4 lo (x:=x) (y:=y) hx hy
 have k:=f.un (dn rs) (λt ht=>by
  refine y3 (hT t ht) λh1 h2 h3=>?_
  have j:Jn R t.1.1 t.1.2:=(c.dj t.1 h1).elim (λk=>nomatch k) id
  have j:=j.mul t.2
  rw[t8 t.2,t8 t.2]at j
  exact eq (by show dg (ad t.1.1 t.2)<=top;rw[ko];exact Y10 h2) (by show dg (ad t.1.2 t.2)<=top;rw[ko];exact Y11 h2 h3) j) m
 rw[<-k]
 have dF:dg (F m)<=top:=by rw[(f.lo m).1];exact hm
 have ir:Kd R (F m):=λρ hr=>by
  cases z:gG ρ.1 (F m)with
  |false=>rfl
  |true=>
   have e:=(c.sd ρ hr).ap (q:=(0,0,0)) z (by rw[show dg (0,0,0)=0 from rfl,cc];exact dF)
   have zr:∀x:M,ad (0,0,0) x=x:=λx=>pK (cc _) (cc _) (cc _)
   rw[zr,zr,(f.lo m).2.2]at e
   have w1:=(f.lo (ap ρ (F m))).2.1
   have w2:=zM nO (c.ru ρ hr) z
   rw[<-e]at w1
   exact absurd w2 (jv.2 w1)
 exact ir.st (uN (λρ h=>(le ρ).mp h) 15 (F m))
end
end
noncomputable def word (m:M):ar:=List.replicate m.1 102++List.replicate m.2.1 105++List.replicate m.2.2 108
noncomputable def rns (l:M):aG:=[List.replicate l.1 102,List.replicate l.2.1 105,List.replicate l.2.2 108]
def OC (l:M) (s:Nat):aG:=if s=0 then rns l else[[]]++(if s=1 then(rns l).filter (·!=[])else(word l).map λc=>[c])++[[]]
def want (l:M) (s:Nat):ar:=cL cP (OC l s)
def keyOf (l:M) (s:Nat) (m:M):ar:=want l s++[32]++word m
noncomputable def cnt (x:ar):M:=(x.count 102,x.count 105,x.count 108)
def val (k:ar):Bool:=gG (cnt (k.takeWhile (·!=32))) (cnt (k.dropWhile (·!=32)))
noncomputable def OF (w:ar):Bool:=w.all λc=>c==102||(c==105||c==108)
noncomputable def s3:ar:=[0,1,2]
theorem TS:(lL.all λl=>s3.all λs=>lL.all λm=>emW (OC l s) (word m)==gG l m)=true:=by kernel_rfl
theorem KX:(lL.all λl=>s3.all λs=>lL.all λm=>val (keyOf l s m)==gG l m)=true:=by kernel_rfl
theorem Ly:(lL.all λl=>s3.all λs=>(OC l s).all OF&&(!(OC l s).isEmpty&&Nat.ble (OC l s).length 100))=true:=by kernel_rfl
def lu:aG:=lL.flatMap λl=>s3.flatMap λs=>lL.map λm=>keyOf l s m
theorem I3:lu.length=2883:=by kernel_rfl
theorem B9:(lu.all λk=>Nat.ble k.length 60)=true:=by kernel_rfl
noncomputable abbrev Ak:=aG×ar×Bool
noncomputable def un (i:Nat):M:=if i=0 then(1,0,0)else if i=1 then(0,1,0)else(0,0,1)
def q1 (m:M):List Ak:=[1,(word m).length].map λt=>([[]]++(word m).reverse.map (λc=>[c])++[[]],(List.replicate t (word m)).flatten,decide (t>1)||word m==List.replicate (word m).length ((word m).headD 0))
def q2 (m:M):List Ak:=[(2,1),(2,2),(3,2),(3,3)].map λx=>(List.replicate x.1 (word m),(List.replicate x.2 (word m)).flatten,decide (x.2>=x.1))
def q3 (m:M) (i:Nat):List Ak:=([word m],word (ad m (un i)),false)::((List.range ((word m).length+1)).filter λp=>Nat.beq (p %2) (i %2)).map λp=>([(word m).take p,(word m).drop p],word (ad m (un i)),(word (ad m (un i))).take p++(word (ad m (un i))).drop (p+1)==word m)
def Ui (m:M):List Ak:=q1 m++q2 m++q3 m 0++q3 m 1++q3 m 2
theorem JE:(lL.all λm=>(Ui m).all λx=>(emW x.1 x.2.1==x.2.2)&&(x.1.all OF&&(OF x.2.1&&(!x.1.isEmpty&&Nat.ble x.1.length 100))))=true:=by kernel_rfl
noncomputable abbrev Ky:=List (Int×Int)
noncomputable def atC (m:M) (c:Int):Int:=if c=0 then m.1 else if c=1 then m.2.1 else m.2.2
theorem acd {m:M}:atC m 0=m.1:=rfl
theorem acb {m:M}:atC m 1=m.2.1:=rfl
theorem aca {m:M}:atC m 2=m.2.2:=rfl
noncomputable def sgn (w:Int):Int:=if w>0 then 1 else-1
def wM (m:M):Nat->Ky->Int
 |_,[]=>0
 |k,p::r=>atC m p.1*sgn p.2*100^(2-k)+wM m (k+1) r
theorem Vv {m:M} {k:Nat} {p:Int×Int} {r:Ky}:wM m k (p::r)=atC m p.1*sgn p.2*100^(2-k)+wM m (k+1) r:=rfl
def Wt (ks:Ky) (m:M):Int:=wM m 0 ks
def fg (ks:Ky) (x y:M):Int:=mU ks (λc=>decide (atC x c<atC y c)) λc=>decide (atC y c<atC x c)
theorem Uh (x y:M) (c:Int):atC (ad x y) c=atC x c+atC y c:=by
 unfold atC
 by_cases h:c=0
 ·rw[ag h,ag h,ag h];exact Int.natCast_add ..
 ·rw[af h,af h,af h]
  by_cases k:c=1
  ·rw[ag k,ag k,ag k];exact Int.natCast_add ..
  ·rw[af k,af k,af k];exact Int.natCast_add ..
theorem PY (x y:M) (ks:Ky):∀k,wM (ad x y) k ks=wM x k ks+wM y k ks:=by
 induction ks with
 |nil=>exact λU=>rfl
 |cons p r ih=>
  intro k
  simp only[Vv,Uh,ih,Int.add_mul]
  exact Z14
theorem BS (ks:Ky) (x y:M):Wt ks (ad x y)=Wt ks x+Wt ks y:=PY x y ks 0
structure jX (ks:Ky):Prop where
 le:ks.length<=3
 c:∀p∈ks,0<=p.1/\p.1<=2/\p.2≠0/\small p.2=true
 two:∃p∈ks,∃q∈ks,p.1≠q.1
 nd:(ks.map (·.1)).Nodup
def Sg (c t:Int):Prop:=(0<c↔0<t)/\(c<0↔t<0)
theorem Sg.pp {c z:Int} (hc:0<c) (hz:0<z):Sg c z:=⟨iff_of_true hc hz,iff_of_false (Int.lt_asymm hc) (Int.lt_asymm hz)⟩
theorem Sg.nn {c z:Int} (hc:c<0) (hz:z<0):Sg c z:=⟨iff_of_false (Int.lt_asymm hc) (Int.lt_asymm hz),iff_of_true hc hz⟩
theorem GS {d B t:Int} (h1:1<=d) (h4:d<=4) (hB:0<B) (ht:-B<t/\t<B):(0<d*B+t/\d*B+t<100*B)/\-(d*B)+t<0/\-(100*B)< -(d*B)+t:=by
 have a:=Int.mul_le_mul_of_nonneg_right h1 (lW hB)
 have b:=Int.mul_le_mul_of_nonneg_right h4 (lW hB)
 generalize d*B=z at a b
 omega
theorem Lj {w x y B t c:Int} (hw:w≠0) (hx:0<=x/\x<=4) (hy:0<=y/\y<=4) (hB:0<B) (ht:-B<t/\t<B) (h:Sg c t):Sg (if x<y then-w else if y<x then w else c) ((x-y)*sgn w*B+t)/\-(100*B)<(x-y)*sgn w*B+t/\(x-y)*sgn w*B+t<100*B:=by
 have key:∀z:Int,((x-y)*sgn w*B=z)->Sg (if x<y then-w else if y<x then w else c) (z+t)/\-(100*B)<z+t/\z+t<100*B:=λz e=>by
  by_cases h1:x<y
  ·have s:=GS (d:=y-x) (Int.sub_pos.2 h1) (by exact Y15 hx.1 hy.2) hB ht
   rw[ag h1]
   by_cases h2:w>0
   ·have :z=-((y-x)*B):=by rw[<-e,sgn,ag h2,Int.mul_one,<-Int.neg_mul,Int.neg_sub]
    rw[this];exact⟨.nn (Int.neg_neg_of_pos h2) s.2.1,s.2.2,kI s.2.1 (by omega)⟩
   ·have :z=(y-x)*B:=by rw[<-e,sgn,af h2,Int.mul_neg_one,Int.neg_sub]
    rw[this];exact⟨.pp (by exact ado h2 hw) s.1.1,kI (by omega) s.1.1,s.1.2⟩
  ·rw[af h1]
   by_cases h3:y<x
   ·have s:=GS (d:=x-y) (Int.sub_pos.2 h3) (by exact Y15 hy.1 hx.2) hB ht
    rw[ag h3]
    by_cases h2:w>0
    ·have :z=(x-y)*B:=by rw[<-e,sgn,ag h2,Int.mul_one]
     rw[this];exact⟨.pp h2 s.1.1,kI (by omega) s.1.1,s.1.2⟩
    ·have :z=-((x-y)*B):=by rw[<-e,sgn,af h2,Int.mul_neg_one,Int.neg_mul]
     rw[this];exact⟨.nn (by exact adn h2 hw) s.2.1,s.2.2,kI s.2.1 (by omega)⟩
   ·have :z=0:=by rw[<-e,show x-y=0 by exact adm h1 h3,Int.zero_mul,Int.zero_mul]
    rw[af h3,this,iF];exact⟨h,by omega,by omega⟩
 exact key _ rfl
theorem KG {m:M} (h:dg m<=4) (c:Int):0<=atC m c/\atC m c<=4:=by
 have z:∀n,n<=dg m->0<=(n:Int)/\(n:Int)<=4:=λn k=>⟨kQ _,gN.2 (aA k h)⟩
 unfold atC
 by_cases h:c=0
 ·rw[ag h];exact z _ (aA (f7 ..) (f7 ..))
 ·rw[af h]
  by_cases k:c=1
  ·rw[ag k];exact z _ (aA (kN ..) (f7 ..))
  ·rw[af k];exact z _ (kN ..)
theorem QR {x y:M} (hx:dg x<=4) (hy:dg y<=4):∀(ks:Ky) (k:Nat),k+ks.length<=3->(∀p∈ks,p.2≠0)->Sg (fg ks x y) (wM x k ks-wM y k ks)/\-(100^(3-k))<wM x k ks-wM y k ks/\wM x k ks-wM y k ks<100^(3-k):=by
 intro xx
 induction xx with
 |nil=>
  intro k h _
  have :(0:Int)<100^(3-k):=Int.pow_pos (by decide)
  show Sg 0 (0-0)/\_<(0-0:Int)/\(0-0:Int)<_
  exact⟨⟨Iff.rfl,Iff.rfl⟩,by exact Y33 this,by exact Y34 this⟩
 |cons p r ih=>
  intro k h hp
  simp only[bQ]at h
  have ih:=ih (k+1) (by exact Y35 h) λq hq=>hp q (.tail _ hq)
  have e1:3-(k+1)=2-k:=by exact Y36
  have e2:3-k=2-k+1:=by exact Y37 h
  have ih2:Sg (fg r x y) (wM x (k+1) r-wM y (k+1) r):=ih.1
  rw[e1]at ih
  have :=Lj (hp p (.head _)) (KG hx p.1) (KG hy p.1) (B:=100^(2-k)) (Int.pow_pos (by decide)) ih.2 ih2
  have e3:wM x k (p::r)-wM y k (p::r)=(atC x p.1-atC y p.1)*sgn p.2*100^(2-k)+(wM x (k+1) r-wM y (k+1) r):=by
   simp only[Vv,Int.sub_mul];exact Y38
  rw[e3,e2,Int.pow_succ,Int.mul_comm _ 100]
  refine⟨?_,this.2⟩
  have e4:fg (p::r) x y=if atC x p.1<atC y p.1 then-p.2 else if atC y p.1<atC x p.1 then p.2 else fg r x y:=by
   simp only[fg,u4,iB]
  rw[e4];exact this.1
theorem HB {ks:Ky} (o:jX ks) {x y:M} (hx:dg x<=4) (hy:dg y<=4):(0<fg ks x y↔Wt ks y<Wt ks x)/\(fg ks x y<0↔Wt ks x<Wt ks y):=by
 have :=(QR hx hy ks 0 (by have :=o.le;exact Y39 this) λp hp=>(o.c p hp).2.2.1).1
 unfold Sg at this
 unfold Wt
 exact Y40 this.1 this.2
theorem aag {x y:M}:∀(ks:Ky),(∀p∈ks,p.2≠0)->fg ks x y=0->∀p∈ks,atC x p.1=atC y p.1:=by
 intro xx
 induction xx with
 |nil=>
  intro _ _ _ h
  exact nomatch h
 |cons q r ih=>
  intro hw e p hp
  have hq:=hw q (.head _)
  simp only[fg,u4,iB]at e
  by_cases h1:atC x q.1<atC y q.1
  ·rw[ag h1]at e;exact Y41 e hq
  ·rw[af h1]at e
   by_cases h2:atC y q.1<atC x q.1
   ·rw[ag h2]at e;exact absurd e hq
   ·rw[af h2]at e
    rcases aC.1 hp with rfl|hp
    ·exact Y42 h1 h2
    ·exact ih (λp hp=>hw p (.tail _ hp)) e p hp
theorem wV {a b c a' b' c':Int} (s:a+b+c=a'+b'+c') (h:a=a'/\b=b'\/a=a'/\c=c'\/b=b'/\c=c'):a=a'/\b=b'/\c=c':=by exact adl s h
theorem BL {ks:Ky} (o:jX ks) {x y:M} (hd:dg x=dg y) (e:fg ks x y=0):x=y:=by
 have h:=aag ks (λp hp=>(o.c p hp).2.2.1) e
 obtain⟨p,hp,q,hq,ne⟩:=o.two
 have h1:=h p hp
 have h2:=h q hq
 have c1:=o.c p hp
 have c2:=o.c q hq
 have cs:∀c:Int,0<=c->c<=2->c=0\/c=1\/c=2:=λc h0 h2=>by exact UP h0 h2
 have tx:atC x 0+atC x 1+atC x 2=atC y 0+atC y 1+atC y 2:=by
  show(x.1:Int)+x.2.1+x.2.2=y.1+y.2.1+y.2.2
  unfold dg at hd;exact adk hd
 have all:atC x 0=atC y 0/\atC x 1=atC y 1/\atC x 2=atC y 2:=by
  rcases cs p.1 c1.1 c1.2.1 with e1|e1|e1<;>rcases cs q.1 c2.1 c2.2.1 with e2|e2|e2<;>rw[e1]at h1 ne<;>rw[e2]at h2 ne<;>first|exact absurd rfl ne|exact wV tx (.inl ⟨h1,h2⟩)|exact wV tx (.inl ⟨h2,h1⟩)|exact wV tx (.inr (.inl ⟨h1,h2⟩))|exact wV tx (.inr (.inl ⟨h2,h1⟩))|exact wV tx (.inr (.inr ⟨h1,h2⟩))|exact wV tx (.inr (.inr ⟨h2,h1⟩))
 exact pK (Int.ofNat.inj all.1) (Int.ofNat.inj all.2.1) (Int.ofNat.inj all.2.2)
theorem cmp_self (ks:Ky) (x:M):fg ks x x=0:=by
 induction ks with
 |nil=>rfl
 |cons p r ih=>simp only[fg,u4,iB];rw[af (Int.lt_irrefl _),af (Int.lt_irrefl _)];exact ih
theorem aaA {ks:Ky} (o:jX ks) {x y:M} (hx:dg x<=4) (hd:dg x=dg y) (e:Wt ks x=Wt ks y):x=y:=by
 have :=HB o hx (hd▸hx)
 exact BL o hd (by exact Y47 this.1 this.2 e)
section
variable{n:Nat} {K K':HK} {L L':aE}
noncomputable abbrev Cl:=List (ar×Int)
noncomputable def j6 (cl:Cl):aG:=cl.map (·.1)
noncomputable def pC (cl:Cl):aq:=cl.map λp=>.int p.2
noncomputable def mvs (m:M):aq:=[.int m.1,.int m.2.1,.int m.2.2]
def M.v (m:M):V:=.tup (mvs m)
def ent (m:M) (n:Int) (cl:Cl):V:=.tup [.int m.1,.int m.2.1,.int m.2.2,.int n,.eK (j6 cl) (pC cl)]
def dq (ρ:Rl):V:=.tup [.int ((ρ.2.1:Int)-ρ.1.1),.int ((ρ.2.2.1:Int)-ρ.1.2.1),.int ((ρ.2.2.2:Int)-ρ.1.2.2),.int 0,.eK (j6 [(word ρ.1,1)]) (pC [(word ρ.1,1)])]
def iQ (v:V) (m:M):Prop:=∀H,gC H v (.int 0)=some (.int m.1)/\gC H v (.int 1)=some (.int m.2.1)/\gC H v (.int 2)=some (.int m.2.2)
theorem iQ.ent (m:M) (n:Int) (cl:Cl):iQ (ent m n cl) m:=λU=>⟨rfl,rfl,rfl⟩
theorem iQ.v (m:M):iQ m.v m:=λU=>⟨rfl,rfl,rfl⟩
theorem iQ.l (m:M):iQ (.lst (mvs m)) m:=λU=>⟨rfl,rfl,rfl⟩
theorem iQ.at {v:V} {m:M} (h:iQ v m) {c:Int} (h0:0<=c) (h2:c<=2) (H):gC H v (.int c)=some (.int (atC m c)):=by
 have e:c=0\/c=1\/c=2:=by exact UP h0 h2
 rcases e with rfl|rfl|rfl
 ·exact(h H).1
 ·exact(h H).2.1
 ·exact(h H).2.2
theorem Bl (c n:Nat) (h:n<=1000):h_ (.str [c]) (.int n)=some (.str (List.replicate n c)):=by
 have e:D9 (.str [c]) (.int n)=some (.str (List.replicate n c)):=by
  have z:-(2^63:Int)<=n/\(n:Int)<2^63/\[c].length*(n:Int).toNat<=16777216:=⟨by omega,by omega,by rw[j3,eA,Nat.one_mul];exact Wk h⟩
  exact aR (x:=nP (.str [c])) rfl (aR (x:=mE (.int n)) rfl (D0 z (by rw[j3,List.flatten_replicate_singleton])))
 show Option.or (y_ (.str [c]) (.int n)) (D9 (.str [c]) (.int n))=_
 rw[show y_ (.str [c]) (.int n)=none from rfl,e];rfl
theorem r9 {x y:ar} (h:x.length+y.length<=16777216):addW (.str x) (.str y)=some (.str (x++y)):=by
 have e:Ef (.str x) (.str y)=some (.str (x++y)):=ag h
 show((Option.or none (Ef (.str x) (.str y))).or _)=_
 rw[e];rfl
theorem d7 (m:M):(word m).length=dg m:=by simp[word,dg,iq]
theorem fV {v:V} {m:M} (h:iQ v m) (hd:dg m<=100):Fn K aU [v] (.str (word m)):=by
 unfold dg at hd
 refine Fn.of rfl (Rt.fst (.ret (.bin (.bin (.bin .con (.idx (.var rfl) .con λH U=>(h H).1) (Bl 102 m.1 (by exact Y49 hd))) (.bin .con (.idx (.var rfl) .con λH U=>(h H).2.1) (Bl 105 m.2.1 (by exact Y50 hd))) (r9 ?_)) (.bin .con (.idx (.var rfl) .con λH U=>(h H).2.2) (Bl 108 m.2.2 (by exact Y51 hd))) (r9 ?_))))
 ·simp;exact Y52 hd
 ·simp;exact Y53 hd
theorem Iy (n:Nat) (h:n<=4):Fn K cq [.int n] (.lst ((dS n).map M.v)):=by
 match n,h with
 |0,_=>exact λH hh=>⟨H,by kernel_rfl,hh⟩
 |1,_=>exact λH hh=>⟨H,by kernel_rfl,hh⟩
 |2,_=>exact λH hh=>⟨H,by kernel_rfl,hh⟩
 |3,_=>exact λH hh=>⟨H,by kernel_rfl,hh⟩
 |4,_=>exact λH hh=>⟨H,by kernel_rfl,hh⟩
theorem ym:lL=[(0,0,2),(0,1,1),(0,2,0),(1,0,1),(1,1,0),(2,0,0),(0,0,3),(0,1,2),(0,2,1),(0,3,0),(1,0,2),(1,1,1),(1,2,0),(2,0,1),(2,1,0),(3,0,0),(0,0,4),(0,1,3),(0,2,2),(0,3,1),(0,4,0),(1,0,3),(1,1,2),(1,2,1),(1,3,0),(2,0,2),(2,1,1),(2,2,0),(3,0,1),(3,1,0),(4,0,0)]:=by kernel_rfl
theorem Ia:AllP (λl=>AllP (λ(s:Nat)=>∀H n cl,gu H [ent l n cl,.int s]=some (.str (want l s),H)) s3) lL:=by
 rw[ym]
 repeat' first|exact True.intro|refine And.intro ?_ ?_
 all_goals exact λH n cl=>by kernel_rfl
theorem KV {l:M} (hl:l∈lL) {s:Nat} (hs:s<3) (n:Int) (cl:Cl):Fn K gu [ent l n cl,.int s] (.str (want l s)):=λH hh=>
 ⟨H,(Ia.of l hl).of s (by match s,hs with|0,_=>decide|1,_=>decide|2,_=>decide) H n cl,hh⟩
theorem mS {w:ar} (h:OF w=true):sV w/\Small w:=by
 unfold OF at h
 simp only[aI,oi,beq_iff_eq]at h
 refine⟨λm=>?_,aI.2 λc hc=>?_⟩
 ·have :=h 46 m;exact Y54 this
 ·have :=h c hc;exact decide_eq_true (by exact Y55 this)
theorem qG (m:M):OF (word m)=true:=by
 unfold OF word
 simp only[List.all_append,List.all_replicate]
 simp
theorem MH {l m:M} {s:Nat} (hl:l∈lL) (hs:s∈s3) (hm:m∈lL):emW (OC l s) (word m)=gG l m:=by
 have :=aI.1 (aI.1 (aI.1 TS l hl) s hs) m hm
 exact eq_of_beq this
theorem ME {l m:M} {s:Nat} (hl:l∈lL) (hs:s∈s3) (hm:m∈lL):Fn K a8 [.str (want l s),.str (word m)] (.bool (gG l m)):=by
 have h:=aI.1 (aI.1 Ly l hl) s hs
 simp only[bp,aI]at h
 have :=N5 (K:=K) (OC l s) (word m) (λe=>by rw[e]at h;exact nomatch h.2.1) (λw hw=>(mS (h.1 w hw)).1) (λw hw=>(mS (h.1 w hw)).2) (mS (qG m)).2 (ay h.2.2)
 rw[MH hl hs hm]at this
 exact this
noncomputable def rx (ks:Ky):V:=.lst (ks.map λp=>.tup [.int p.1,.int p.2])
theorem BK {ks:Ky} (o:jX ks) {a b:V} {x y:M} (ha:iQ a x) (hb:iQ b y):Fn K bU [.cmp (rx ks),a,b] (.int (fg ks x y)):=
 Cf ks _ _ a b λp hp=>have c:=o.c p hp;⟨_,_,ha.at c.1 c.2.1,hb.at c.1 c.2.1,λU=>rfl,λU=>rfl⟩
end
section
variable{n:Nat} {K K':HK} {L L':aE}
noncomputable def eE:Cl->ar->Int->Cl
 |[],w,t=>[(w,t)]
 |p::r,w,t=>if p.1=w then(p.1,p.2+t)::r else p::eE r w t
theorem Ff (w:ar) (t:Int):∀cl:Cl,eX (j6 cl,pC cl) (w,.int t)=some (j6 (eE cl w t),pC (eE cl w t)):=by
 intro xx
 induction xx with
 |nil=>
  exact rfl
 |cons p r ih=>
  have ih:=ih
  unfold eX at ih |-
  by_cases q:p.1=w
  ·have e1:cz (j6 (p::r)) (pC (p::r)) w=some (.int p.2):=ag q
   have e2:∀v,bM (j6 (p::r)) (pC (p::r)) w v=(j6 (p::r),v::pC r):=λv=>ag q
   rw[e1,show eE (p::r) w t=(p.1,p.2+t)::r from ag q]
   show((uL (.int t) (.int p.2)).map λr'=>bM (j6 (p::r)) (pC (p::r)) w r')=_
   rw[show uL (.int t) (.int p.2)=some (.int (p.2+t))from rfl,iw,e2];rfl
  ·have e1:cz (j6 (p::r)) (pC (p::r)) w=cz (j6 r) (pC r) w:=af q
   have e2:∀v,bM (j6 (p::r)) (pC (p::r)) w v=(p.1::(bM (j6 r) (pC r) w v).1,.int p.2::(bM (j6 r) (pC r) w v).2):=λv=>af q
   rw[e1,show eE (p::r) w t=p::eE r w t from af q]
   cases e:cz (j6 r) (pC r) w with
   |none=>
    rw[e]at ih
    have ih:=aP ih
    show some (bM (j6 (p::r)) (pC (p::r)) w (.int t))=_
    rw[e2,show bM (j6 r) (pC r) w (.int t)=_ from ih];rfl
   |some u=>
    rw[e]at ih
    refine x3 (aO.1 ih) λz h1 h2=>?_
    show((uL (.int t) u).map λr'=>bM (j6 (p::r)) (pC (p::r)) w r')=_
    rw[h1,iw,e2,h2];rfl
structure eN (N:Nat) (cl:Cl):Prop where
 nd:(j6 cl).Nodup
 sh:∀k∈j6 cl,k.length<=100
 le:cl.length<=N
theorem xC (w:ar) (t:Int):∀cl:Cl,j6 (eE cl w t)=if w∈j6 cl then j6 cl else j6 cl++[w]:=by
 intro xx
 induction xx with
 |nil=>
  exact rfl
 |cons p r ih=>
  have ih:=ih
  by_cases q:p.1=w
  ·rw[show eE (p::r) w t=(p.1,p.2+t)::r from ag q,ag (show w∈j6 (p::r)from q▸cV)];rfl
  ·rw[show eE (p::r) w t=p::eE r w t from af q]
   show p.1::j6 (eE r w t)=_
   have e:w∈j6 (p::r)↔w∈j6 r:=⟨λh=>(aC.1 h).elim (λh=>absurd h.symm q) id,b9 _⟩
   by_cases z:w∈j6 r
   ·rw[ih,ag z,ag (e.2 z)];rfl
   ·rw[ih,af z,af λh=>z (e.1 h)];rfl
theorem eN.add {N:Nat} {cl:Cl} (h:eN N cl) {w:ar} (hw:w.length<=100) (t:Int):eN (N+1) (eE cl w t):=by
 have l:∀c:Cl,c.length=(j6 c).length:=λc=>(aD _).symm
 have hl:=h.le
 rw[l]at hl
 by_cases q:w∈j6 cl
 ·have e:=xC w t cl
  rw[ag q]at e
  exact⟨e▸h.nd,e▸h.sh,by rw[l,e];exact Ws hl⟩
 ·have e:=xC w t cl
  rw[af q]at e
  refine⟨?_,?_,?_⟩
  ·rw[e,jc]
   exact⟨h.nd,fZ.2 ⟨bh,gy⟩,λa ha b hb e=>q (a7.1 hb▸e▸ha)⟩
  ·rw[e];exact λk hk=>(bF.1 hk).elim (h.sh k) λhk=>a7.1 hk▸hw
  ·rw[l,e,bH];exact iz hl
theorem eN.mono {N N':Nat} {cl:Cl} (h:eN N cl) (le:N<=N'):eN N' cl:=⟨h.nd,h.sh,aA h.le le⟩
theorem eN.short {N:Nat} {cl:Cl} (h:eN N cl):fO (j6 cl)=true:=aI.2 λk hk=>decide_eq_true (aA (h.sh k hk) (by decide))
theorem tZ (cl:Cl):(j6 cl).length=(pC cl).length:=by simp[j6,pC]
theorem HS {N:Nat} {cl:Cl} (h:eN N cl) (hN:N<=400) {w:ar} (hw:w.length<=100) (t a b c d a' b' c' d':Int):
  Fn K cD [.tup [.int a',.int b',.int c',.int d',.eK (j6 cl) (pC cl)],.tup [.int a,.int b,.int c,.int d,.eK (j6 [(w,t)]) (pC [(w,t)])]] (.tup [.int (a+a'),.int (b+b'),.int (c+c'),.int (d+d'),.eK (j6 (eE cl w t)) (pC (eE cl w t))]):=by
 have VY:∀(i j k l m:Nat) (v1 v2 v3 v4 v5:V),i<13->j<13->k<13->l<13->m<13->Tg 13 (bx (ao (ah i) (ao (ah j) (ao (ah k) (ao (ah l) (ao (ah m) bf)))))) (.tup [v1,v2,v3,v4,v5]) [(m,v5),(l,v4),(k,v3),(j,v2),(i,v1)]:=λi j k l m U U U U U h1 h2 h3 h4 h5=>.tup (.cons (.var h1) (.cons (.var h2) (.cons (.var h3) (.cons (.var h4) (.cons (.var h5) .nil)))))
 refine Fn.of rfl (Rt.seq (Sn.set (.var rfl) (VY 2 3 4 5 6 _ _ _ _ _ (by decide) (by decide) (by decide) (by decide) (by decide))) (Rt.seq (Sn.set (.var rfl) (VY 7 8 9 10 11 _ _ _ _ _ (by decide) (by decide) (by decide) (by decide) (by decide))) (Rt.fst (.ret (.tup (.and (.bin (.var rfl) (.var rfl) rfl) (.and (.bin (.var rfl) (.var rfl) rfl) (.and (.bin (.var rfl) (.var rfl) rfl) (.and (.bin (.var rfl) (.var rfl) rfl) (.and (.cM (.and (.var rfl) (.and (.var rfl) .no)) ?_) .no))))) (ay rfl))))))
 refine oZ _ _ _ _ (j6 (eE cl w t),pC (eE cl w t)) (tZ cl) rfl h.nd ?_ h.short ?_ ?_
 ·have :=h.le;show(j6 cl).length+1<500;rw[j6,aD];exact Y56 hN this
 ·exact aI.2 λk hk=>by cases a7.1 hk;exact decide_eq_true (aA hw (by decide))
 ·show(eX (j6 cl,pC cl) (w,.int t)).bind some=_
  rw[Ff];rfl
theorem vK {N:Nat} {cl:Cl} (h:eN N cl) (hN:N<=400) {ρ:Rl} {m:M} (hd:dg ρ.1<=100) (hl:gG ρ.1 m=true) (k:Int):Fn K cD [ent m k cl,dq ρ] (ent (ap ρ m) k (eE cl (word ρ.1) 1)):=by
 have :=HS (K:=K) h hN (w:=word ρ.1) (by rw[d7];exact hd) 1 ((ρ.2.1:Int)-ρ.1.1) ((ρ.2.2.1:Int)-ρ.1.2.1) ((ρ.2.2.2:Int)-ρ.1.2.2) 0 m.1 m.2.1 m.2.2 k
 have l:=eR.1 hl
 have e1:(ρ.2.1:Int)-ρ.1.1+m.1=((ap ρ m).1:Nat):=by show _=((m.1-ρ.1.1+ρ.2.1:Nat):Int);exact Y57 l.1
 have e2:(ρ.2.2.1:Int)-ρ.1.2.1+m.2.1=((ap ρ m).2.1:Nat):=by show _=((m.2.1-ρ.1.2.1+ρ.2.2.1:Nat):Int);exact Y57 l.2.1
 have e3:(ρ.2.2.2:Int)-ρ.1.2.2+m.2.2=((ap ρ m).2.2:Nat):=by show _=((m.2.2-ρ.1.2.2+ρ.2.2.2:Nat):Int);exact Y57 l.2.2
 rw[e1,e2,e3,iF]at this
 exact this
noncomputable def qf (cl:Cl):Int:=(cl.map (·.2)).sum
theorem count_is (cl:Cl):Fn K fP [.eK (j6 cl) (pC cl)] (.int (qf cl)):=by
 refine Fn.of rfl (Rt.seq (Sn.fH (by decide) .con) (Rt.seq (Sn.loop (l:=pC cl) (.values (.var rfl) (tZ cl)) (λi=>[(1,.int (((cl.take i).map (·.2)).sum))]) (λk v h=>?_) λi x hx=>?_) (Rt.fst (.ret (.var ?_)))))
 ·match k with
  |0=>exact absurd h (by simp[bG])
  |1=>exact h
  |k+2=>exact absurd h (by simp[bG])
 ·obtain⟨p,hp,rfl⟩:=aO.1 (by rw[pC,aQ]at hx;exact hx)
  refine⟨_,.var (by decide),Sn.mono (Sn.seq (Sn.aug (v:=.int (((cl.take (i+1)).map (·.2)).sum)) (by decide) rfl (.var rfl) ?_) .fin) λk v h=>?_⟩
  ·show some (V.int _)=_
   rw[take_succ_get hp,cF,List.sum_append_int];simp
  ·match k with
   |0=>exact absurd h (by simp[bG])
   |1=>exact h
   |k+2=>exact absurd h (by simp[bG])
 ·show some (V.int _)=some (.int (qf cl))
  rw[pC,aD,List.take_length];rfl
noncomputable def enF:Nat->aq->aq
 |_,[]=>[]
 |k,v::l=>.tup [.int k,v]::enF (k+1) l
theorem TR (l:aq):∀k,(List.range l.length).map (λ(i:Nat)=>V.tup [.int ((k+i:Nat):Int),l.getD i .none])=enF k l:=by
 induction l with
 |nil=>exact λU=>rfl
 |cons v l ih=>
  intro k
  rw[bQ,List.range_succ_eq_map,bo,br]
  refine ak (V.tup [.int (k:Nat),v]::·) ((jg λi U=>?_).trans (ih (k+1)))
  show V.tup [.int ((k+(i+1):Nat):Int),l.getD i .none]=_
  rw[qR];rfl
theorem Jq (l:aq):ny l=enF 0 l:=by
 rw[<-TR];unfold ny;simp only[cc]
theorem Mi {m v:V} {c:Int} (h:gC [] m (.int c)=some v) (H):gC H m (.int c)=some v:=by
 cases m with
 |ref n=>cases h
 |_=>exact h
def wDA:DA:=bx (ao (ah 1) (ao (bx (ao (ah 2) (ao (ah 3) bf))) bf))
def wEl:D:=aB h_ (aB h_ (aH (aa 4) (aa 2)) (lO (aS xH (aa 3) (dC (.int 0))) (dC (.int 1)) (lN (dC (.int 1))))) (aB FO (dC (.int 100)) (aB gI (dC (.int 2)) (aa 1)))
theorem P0 {H:aj} {m:V} {k:Nat} (hk:k<=2) {c w x:Int} (hx:gC H m (.int c)=some (.int x)) (g:Option V):wEl ⟨H,[g,some (.int k),some (.int c),some (.int w),some m]⟩=some (.int (x*sgn w*100^(2-k)),⟨H,[g,some (.int k),some (.int c),some (.int w),some m]⟩):=by
 have s:small (sgn w)=true:=by unfold sgn;split<;>rfl
 have e1:aB h_ (aH (aa 4) (aa 2)) (lO (aS xH (aa 3) (dC (.int 0))) (dC (.int 1)) (lN (dC (.int 1)))) ⟨H,[g,some (.int k),some (.int c),some (.int w),some m]⟩=some (.int (x*sgn w),⟨H,[g,some (.int k),some (.int c),some (.int w),some m]⟩):=by
  refine aR (x:=aH (aa 4) (aa 2) _) (gH hx) (aR (a:=(.int (sgn w),⟨H,[g,some (.int k),some (.int c),some (.int w),some m]⟩)) ?_ (gH (Bj s)))
  show(if decide (0<w)=true then some (V.int 1,_)else some (V.int (-1),_))=_
  unfold sgn
  by_cases q:0<w
  ·rw[ag (decide_eq_true q),ag q]
  ·rw[af (by simpa using q),af q]
 have e2:aB FO (dC (.int 100)) (aB gI (dC (.int 2)) (aa 1)) ⟨H,[g,some (.int k),some (.int c),some (.int w),some m]⟩=some (.int (100^(2-k)),⟨H,[g,some (.int k),some (.int c),some (.int w),some m]⟩):=by
  match k,hk with
  |0,_=>kernel_rfl
  |1,_=>kernel_rfl
  |2,_=>kernel_rfl
 have p:small (100^(2-k))=true:=by
  match k,hk with
  |0,_=>rfl
  |1,_=>rfl
  |2,_=>rfl
 exact aR e1 (aR e2 (gH (Bj p)))
theorem HW (H:aj) (m:V):∀(l:aq) (k:Nat) (r:Int) (acc:aq) (g g1 g2 g3:Option V),pS m k l=some r->acc.length+l.length<=1000->∃ts:List Int,∃a6,gh wDA dp (aK wEl) (enF k l) (.list acc) ⟨H,[g,g1,g2,g3,some m]⟩=some (.list (acc++ts.map .int),⟨H,a6⟩)/\ts.sum=r:=by
 intro xx
 induction xx with
 |nil=>
  intro k r acc g g1 g2 g3 h _
  exact⟨[],_,by rw[fB,eh];rfl,aP h⟩
 |cons v l ih=>
  intro k r acc g g1 g2 g3 h hl
  rw[Dd]at h
  by_cases hk:k<=2
  ·rw[ag hk]at h
   refine x3 (aM.1 h) λp hp h=>?_
   refine x3 (aM.1 h) λx hx h=>?_
   refine x3 (aM.1 h) λy hy h=>?_
   obtain⟨z,hz,rfl⟩:=aO.1 h
   rw[zZ hp]
   rw[jN hy]at hx
   rw[bQ]at hl
   refine x4 (ih (k+1) z (acc++[.int (y*sgn p.2*100^(2-k))]) g (some (.int k)) (some (.int p.1)) (some (.int p.2)) hz (by rw[bH,eA];exact Y58 hl)) λts a6 e hs=>?_
   refine⟨y*sgn p.2*100^(2-k)::ts,a6,?_,by rw[n9,hs];rfl⟩
   refine aR (x:=wDA (.tup [.int k,.tup [.int p.1,.int p.2]]) ⟨H,[g,g1,g2,g3,some m]⟩) rfl (aR (x:=dp _) rfl (aR (x:=aK wEl (.list acc) ⟨H,[g,some (.int k),some (.int p.1),some (.int p.2),some m]⟩) (a:=(.list (acc++[.int (y*sgn p.2*100^(2-k))]),⟨H,[g,some (.int k),some (.int p.1),some (.int p.2),some m]⟩)) ?_ ?_))
   ·exact D0 (show acc.length<16777216 by exact Y59 hl) (gH (P0 hk (Mi hx H) g))
   ·rw[e,eV];rfl
  ·rw[af hk]at h;cases h
theorem Mc (ts:List Int):lg (ts.map .int)=some ts:=by
 induction ts with
 |nil=>rfl
 |cons t ts ih=>rw[bo,B',ih];rfl
theorem Ei {m:V}:∀(l:aq) (k:Nat) (r:Int),pS m k l=some r->k+l.length<=3\/l=[]:=by
 intro xx
 induction xx with
 |nil=>
  intro _ _ _
  exact .inr rfl
 |cons v l ih=>
  intro k r h
  rw[Dd]at h
  by_cases hk:k<=2
  ·rw[ag hk]at h
   refine x3 (aM.1 h) λp hp h=>?_
   refine x3 (aM.1 h) λx hx h=>?_
   refine x3 (aM.1 h) λy hy h=>?_
   obtain⟨z,hz,rfl⟩:=aO.1 h
   refine .inl ?_
   rcases ih (k+1) z hz with q|q
   ·rw[bQ];exact Y60 q
   ·rw[q,eA];exact Y61 hk
  ·rw[af hk]at h;cases h
theorem abA:zm pe:=λH kv m r h=>by
 refine x3 (aM.1 h) λl hl h=>?_
 rw[yk hl]
 have hn:l.length<=3:=(Ei l 0 r h).elim (λq=>by exact Y62 q) λq=>by rw[q];decide
 refine x4 (HW H m l 0 r [] none none none none h (by rw[i8];exact Y63 hn)) λts a6 e hs=>?_
 rw[<-Jq,jA]at e
 refine⟨_,aR (a:=([.lst (ts.map .int)],⟨H,[some m,some (.lst l),none,none]⟩)) (aR (a:=(.lst (ts.map .int),⟨H,[some m,some (.lst l),none,none]⟩)) ?_ rfl) (gH ?_)⟩
 ·exact gH (x:=a9 (nA (aa 1)) [none,none,none,none,some 0] wDA dp (aK wEl) (.list []) ⟨H,[some m,some (.lst l),none,none]⟩) (a:=(.list (ts.map .int),⟨H,[some m,some (.lst l),none,none]⟩)) (aR (x:=nA (aa 1) ⟨H,[some m,some (.lst l),none,none]⟩) rfl (gH e))
 ·have :A8 H [.lst (ts.map .int)]=some (.int r):=by rw[TN];exact aR (x:=b8 H (.lst (ts.map .int))) rfl (by rw[Mc,iw,hs])
  show Option.or (A8 H [.lst (ts.map .int)]) _=_
  rw[this];rfl
theorem HV {ks:Ky} {v:V} {m:M} (h:iQ v m):∀k,(∀p∈ks,0<=p.1/\p.1<=2)->k+ks.length<=3->pS v k (ks.map λp=>.tup [.int p.1,.int p.2])=some (wM m k ks):=by
 induction ks with
 |nil=>exact λU U U=>rfl
 |cons p r ih=>
  intro k hp hk
  rw[bQ]at hk
  have hc:=hp p (.head _)
  exact D0 (show k<=2 by exact Y64 hk) (aR (x:=sO (.tup [.int p.1,.int p.2])) rfl (aR (h.at hc.1 hc.2 []) (aR (x:=mE (.int (atC m p.1))) rfl (gH (ih (k+1) (λq hq=>hp q (.tail _ hq)) (by exact Y35 hk))))))
theorem N4 {ks:Ky} (o:jX ks) {v:V} {m:M} (h:iQ v m):fW (rx ks) v=some (Wt ks m):=aR (x:=xI (rx ks)) rfl (HV h 0 (λp hp=>⟨(o.c p hp).1,(o.c p hp).2.1⟩) (by have :=o.le;exact Y39 this))
end
section
variable{n:Nat} {K K':HK} {L L':aE}
def eO (o:bJ):Prop:=∃ks:aG,o= .dict ks (ks.map λk=>.bool (val k))/\ks.Nodup/\∀k∈ks,k∈lu
def PX (key:ar) (o:bJ):Prop:=∃ks:aG,o= .dict ks (ks.map λk=>.bool (val k))/\(ks.Nodup/\∀k∈ks,k∈lu)/\key∈ks
theorem get_map (f:ar->V) (k:ar):∀ks:aG,cz ks (ks.map f) k=if k∈ks then some (f k)else none:=by
 intro xx
 induction xx with
 |nil=>
  exact rfl
 |cons a ks ih=>
  have ih:=ih
  show(if a=k then some (f a)else cz ks (ks.map f) k)=_
  by_cases q:a=k
  ·rw[ag q,ag (q▸cV),q]
  ·rw[af q,ih]
   by_cases z:k∈ks
   ·rw[ag z,ag (.tail _ z)]
   ·rw[af z,af λh=>(aC.1 h).elim (λe=>q e.symm) z]
theorem EL {α:Type} [DecidableEq α]:∀{l m:List α},l.Nodup->(∀x∈l,x∈m)->l.length<=m.length:=by
 intro xx
 induction xx with
 |nil=>
  intro _ _ _
  exact bN _
 |cons x l ih=>
  intro m h s
  have h:=fZ.1 h
  have :=ih h.2 λy hy=>(List.mem_erase_of_ne λ(e:y=x)=>h.1 (e▸hy)).mpr (s y (.tail _ hy))
  have hx:=s x (.head _)
  rw[List.length_erase_of_mem hx]at this
  have :=List.length_pos_of_mem hx
  rw[bQ];exact Y65 this ‹_›
theorem SK.wk {K1 K2:HK} {d:DS} (h:SK n K L d K1 L') (w:∀H,bP K1 H->bP K2 H):SK n K L d K2 L':=λH loc hh hl=>(h H loc hh hl).imp λU=>dJ λU z=>⟨z.1,w _ z.2.1,z.2.2⟩
theorem SK.pre {K1 K2:HK} {d:DS} (h:SK n K1 L d K L') (w:∀H,bP K2 H->bP K1 H):SK n K2 L d K L':=λH loc hh hl=>h H loc (w _ hh) hl
theorem bP.sub {K1 K2:HK} (s:∀p∈K2,p∈K1) (H) (h:bP K1 H):bP K2 H:=λp hp=>h p (s p hp)
theorem Fi {ks:aG} {H:aj} {m:Nat} {key:ar} (h:H[m]?=some (some (.dict ks (ks.map λk=>.bool (val k))))) (nd:ks.Nodup) (al:∀k∈ks,k∈lu) (hk:key∉ks) (ha:key∈lu) {b:Bool} (hb:val key=b):
  wm H (.ref m) (.str key) (.bool b)=some (H.set m (some (.dict (ks++[key]) ((ks++[key]).map λk=>.bool (val k))))):=by
 have l:=EL nd al
 rw[I3]at l
 refine aR (x:=gB H m) (iE h) ((ag ⟨by show ks.length<1048576;exact Y66 l,by simp⟩).trans ?_)
 rw[qa _ _ _ _ (by simp) hk,cF,<-hb];rfl
abbrev k5:=Rl×Nat
def rv (x:k5):V:=.tup [.str (want x.1.1 x.2),x.1.1.v,dq x.1]
structure iW (x:k5):Prop where
 l:x.1.1∈lL
 s:x.2∈s3
 d:dg x.1.1=dg x.1.2
def JJ (v:V):Int:=(mE v).getD 0
theorem Hi {x:k5} (hx:iW x) {m:M} (hm:m∈lL):keyOf x.1.1 x.2 m∈lu:=f6.2 ⟨_,hx.l,f6.2 ⟨_,hx.s,aY.2 ⟨m,hm,rfl⟩⟩⟩
theorem GN {x:k5} (hx:iW x) {m:M} (hm:m∈lL):val (keyOf x.1.1 x.2 m)=gG x.1.1 m:=
 eq_of_beq (aI.1 (aI.1 (aI.1 KX _ hx.l) _ hx.s) m hm)
theorem Sh {k:ar} (h:k∈lu):k.length<=60:=ay (aI.1 B9 k h)
theorem Uv {ev:V} {l m:M} (he:iQ ev m) {L:aE} (h0:L.lookup 0=some ev) (OS:L.lookup 10=some l.v):Ev 19 K L (a5 F2 (ae (fS GH) az)) (.bool (gG l m)):=by
 have j:jL [none,none,some 0,some 10] L=[(2,ev),(3,l.v)]:=by
  simp[jL,List.zipIdx,h0,OS]
 have r:eZ 0 3 1=[.int 0,.int 1,.int 2]:=by kernel_rfl
 have c:=Ev.C4 (n:=19) (K:=K) (L:=L) (js:=[none,none,some 0,some 10]) (k:=1) (l:=[.int 0,.int 1,.int 2]) (di:=cZ (ae (dC (.int 3)) az)) (de:=N8)
  (λv=>.bool (decide (atC m (JJ v)>=atC l (JJ v)))) (r▸mI.range (i:=0) (j:=3) (k:=1) (.and .con .no) rfl (by kernel_rfl)) (ay rfl) (by decide) (by rw[j];rfl) λx hx=>by
   rw[j]
   have :∃i:Int,x= .int i/\0<=i/\i<=2:=by
    simp only[aC,bh,or_false]at hx
    rcases hx with rfl|rfl|rfl
    ·exact⟨0,rfl,by decide,by decide⟩
    ·exact⟨1,rfl,by decide,by decide⟩
    ·exact⟨2,rfl,by decide,by decide⟩
   obtain⟨i,rfl,h1,h2⟩:=this
   exact .cmp (.idx (.var rfl) (.var rfl) λH U=>he.at h1 h2 H) (.idx (.var rfl) (.var rfl) λH U=>(iQ.v l).at h1 h2 H) λH U=>rfl
 refine .call (.and c .no) λH U=>?_
 have e:gG l m=[decide (atC m 0>=atC l 0),decide (atC m 1>=atC l 1),decide (atC m 2>=atC l 2)].all _root_.id:=by
  rw[iu,eR]
  simp only[kJ,List.all_nil,_root_.id,Bool.and_true,bp,iB]
  simp only[acd,acb,aca]
  exact Y67
 rw[e];rfl
end
section
variable{n:Nat} {K K':HK} {L L':aE}
theorem bP.ex {m:Nat} {A:bJ->Prop} {H:aj} (hh:bP ((m,A)::K) H):∃ob,A ob/\bP ((m,Is ob)::K) H:=(hh (m,A) (.head _)).elim λob w=>⟨ob,w.2,λp hp=>(aC.1 hp).elim (λe=>e▸⟨ob,w.1,rfl⟩) λhp=>hh p (.tail _ hp)⟩
theorem SK.ex {m:Nat} {A:bJ->Prop} {d:DS} (h:∀ob,A ob->SK n ((m,Is ob)::K) L d K' L'):SK n ((m,A)::K) L d K' L':=λH loc hh hl=>hh.ex.elim λob w=>h ob w.1 H loc w.2 hl
theorem bP.sw {a b:Nat×(bJ->Prop)} {H:aj} (h:bP (a::b::K) H):bP (b::a::K) H:=λp hp=>h p (by
 rcases aC.1 hp with e|hp
 ·exact e▸.tail _ (.head _)
 ·rcases aC.1 hp with e|hp
  ·exact e▸.head _
  ·exact .tail _ (.tail _ hp))
theorem bP.JI {m:Nat} {A B:bJ->Prop} {H:aj} (h:bP ((m,A)::K) H) (w:∀o,A o->B o):bP ((m,B)::K) H:=λp hp=>(aC.1 hp).elim (λe=>e▸(h (m,A) (.head _)).imp λo z=>⟨z.1,w o z.2⟩) λhp=>h p (.tail _ hp)
theorem lk {k j:Nat} {v w:V} (h:L.lookup k=some v) (e:(k==j)=false):((j,w)::L).lookup k=some v:=by rw[bG,e];exact h
theorem Uk {x:k5} (hx:iW x) {m:M} (hm:m∈lL) {ma:Nat} (hn:∀p∈K,p.1≠ma) {ev:V} (he:iQ ev m) {mo:Nat} (h0:L.lookup 0=some ev) (h4:L.lookup 4=some (.ref ma)) (h7:L.lookup 7=some (.str (word m))) (h9:L.lookup 9=some (.str (want x.1.1 x.2))) (OS:L.lookup 10=some x.1.1.v) (rD:L.lookup 12=some (.str (keyOf x.1.1 x.2 m))):
  SK 19 ((ma,eO)::K) L (j9 (aS rV (aa 12) (aa 4)) (ax (jM (aa 4) (aa 12) (aN a8 (ae (aa 9) (ae (aa 7) az))))
 (ax (j9 (aS fy (aH (aa 4) (aa 12)) (a5 F2 (ae (fS GH) az))) (ax (fU (bC ry fX (aa 3) (ae (aa 12) az)))
 aT) aT)
 aT)) aT) ((ma,PX (keyOf x.1.1 x.2 m))::K) L:=by
 refine SK.ex λob ⟨ks,e,nd,al⟩=>?_
 subst e
 have hv:=GN hx hm
 have ha:=Hi hx hm
 generalize hk:keyOf x.1.1 x.2 m=key at rD hv ha |-
 have tst:∀H,bP ((ma,Is (.dict ks (ks.map λk=>.bool (val k))))::K) H->rV H (.str key) (.ref ma)=some (!decide (key∈ks)):=λH h=>by
  refine aR (x:=gB H ma) (iE h.at) ((ag (by simp)).trans ?_)
  rw[get_map]
  by_cases q:key∈ks
  ·rw[ag q,decide_eq_true q];rfl
  ·rw[af q,decide_eq_false q];rfl
 refine SK.ite (.cmp (.var rD) (.var h4) tst) (λc=>?_) λc=>?_
 ·have q:key∉ks:=by simpa using c
  have A:SK 19 ((ma,Is (.dict ks (ks.map λk=>.bool (val k))))::K) L _ ((ma,Is (.dict (ks++[key]) ((ks++[key]).map λk=>.bool (val k))))::K) L:=SK.store (x:=.ref ma) (y:=.str key) (v:=.bool (gG x.1.1 m)) (.cM (.and (.var h9) (.and (.var h7) .no)) (ME hx.l hx.s hm)) (.var h4) (.var rD) hn λH h=>Fi h nd al q ha hv
  refine(A.seq (SK.seq (SK.ite (c:=false) (.cmp (x:=.bool (gG x.1.1 m)) (y:=.bool (gG x.1.1 m)) (.idx (x:=.ref ma) (y:=.str key) (.var h4) (.var rD) λH h=>?_) (Uv he h0 OS) λH U=>?_) nofun λU=>Sn.fin.k) Sn.fin.k)).wk λH h=>h.JI λo e=>⟨ks++[key],e,⟨?_,λk hk=>(bF.1 hk).elim (al k) λhk=>a7.1 hk▸ha⟩,iD _ (.head _)⟩
  ·refine aR (x:=gB H ma) (iE h.at) ?_
   show cz _ _ key=_
   rw[get_map,ag (iD _ (.head _)),hv]
  ·simp only[qH,mi]
  ·rw[jc]
   exact⟨nd,fZ.2 ⟨bh,gy⟩,λa h b hb e=>q (a7.1 hb▸e▸h)⟩
 ·have q:key∈ks:=by simpa using c
  exact Sn.fin.k.wk λH h=>h.JI λo e=>⟨ks,e,⟨nd,al⟩,q⟩
theorem PX.i {key:ar} {o:bJ} (h:PX key o):eO o:=h.elim λks w=>⟨ks,w.1,w.2.1⟩
theorem Ex {x:k5} (hx:iW x) {m:M} (hm:m∈lL) {ma mf:Nat} (hn:∀p∈K,p.1≠ma/\p.1≠mf) (nf:mf≠ma) {ev:V} (he:iQ ev m) (h0:L.lookup 0=some ev) (h4:L.lookup 4=some (.ref ma)) (h7:L.lookup 7=some (.str (word m))) (h8:L.lookup 8=some (.ref mf)) (h9:L.lookup 9=some (.str (want x.1.1 x.2))) (OS:L.lookup 10=some x.1.1.v) (h11:L.lookup 11=some (dq x.1))
  (H:aj) (loc:c8) (hh:bP ((ma,eO)::(mf,Is (.list []))::K) H) (hl:Loc 19 L loc):∃H' a6,Cz ⟨H,loc⟩=some (if gG x.1.1 m=true then .brk else .next,⟨H',a6⟩)/\bP ((ma,eO)::(mf,Is (.list (if gG x.1.1 m=true then[dq x.1]else[])))::K) H'/\Loc 19 ((12,.str (keyOf x.1.1 x.2 m))::L) a6:=by
 have k60:=Sh (Hi hx hm)
 have lw:(want x.1.1 x.2).length+1+(word m).length<=60:=by simp only[keyOf,bH,eA]at k60;exact k60
 have s1:Sn 19 ((ma,eO)::(mf,Is (.list []))::K) L (ba (ah 12) (aB addW (aB addW (aa 9) (dC (.str [32]))) (aa 7))) ((12,.str (keyOf x.1.1 x.2 m))::L):=.fH (by decide) (.bin (.bin (.var h9) .con (r9 (by show _+1<=_;exact Y68 lw))) (.var h7) (r9 (by rw[bH];show _+1+_<=_;exact Y69 lw)))
 refine x5 (s1 H loc hh hl) λH1 l1 e1 M' pN=>?_
 refine x5 (Uk (L:=(12,.str (keyOf x.1.1 x.2 m))::L) hx hm (ma:=ma) (K:=(mf,Is (.list []))::K) (λp hp=>(aC.1 hp).elim (λe=>e▸nf) λhp=>(hn p hp).1) he (mo:=0) (lk h0 rfl) (lk h4 rfl) (lk h7 rfl) (lk h9 rfl) (lk OS rfl) rfl H1 l1 M' pN) λH2 l2 e2 tG nB=>?_
 obtain⟨ob,⟨ks,rfl,nd,hk⟩,Fs⟩:=tG.ex
 have t:j_ 19 ((ma,Is (.dict ks (ks.map λk=>.bool (val k))))::(mf,Is (.list []))::K) ((12,.str (keyOf x.1.1 x.2 m))::L) (nF (aH (aa 4) (aa 12))) (gG x.1.1 m):=.Fm (x:=.bool (gG x.1.1 m)) (.idx (x:=.ref ma) (y:=.str (keyOf x.1.1 x.2 m)) (.var (lk h4 rfl)) (.var rfl) λH h=>by
  refine aR (x:=gB H ma) (iE h.at) ?_
  show cz _ _ _=_
  rw[get_map,ag hk,GN hx hm]) λU=>rfl
 refine x3 (t H2 l2 Fs nB) λH3 e3 Kb=>?_
 cases q:gG x.1.1 m with
 |false=>
  rw[q]at e3
  exact⟨H3,l2,aR e1 (aR e2 (aR (aR e3 rfl) rfl)),Kb.JI λo e=>⟨ks,e,nd⟩,nB⟩
 |true=>
  rw[q]at e3
  have a:SK 19 ((mf,Is (.list []))::(ma,Is (.dict ks (ks.map λk=>.bool (val k))))::K) ((12,.str (keyOf x.1.1 x.2 m))::L) _ _ _:=SK.append (o:=aa 8) (a:=aa 11) (m:=mf) (l:=[]) (v:=dq x.1) (.var (lk h8 rfl)) (.var (lk h11 rfl)) (by decide) λp hp=>(aC.1 hp).elim (λe=>e▸nf.symm) λhp=>(hn p hp).2
  refine x5 (a H3 l2 Kb.sw nB) λH4 l4 e4 hh5 U7=>?_
  exact⟨H4,l4,aR e1 (aR e2 (aR (aR e3 (aR e4 rfl)) rfl)),hh5.sw.JI λo e=>⟨ks,e,nd⟩,U7⟩
theorem z9 {da:DA} {db:DS} {x:V} {l:aq} {st st₁ st':Internal.St} (e:da x st=some st₁) (e':db st₁=some (.brk,st')):iT da db (x::l) st=some (.next,st'):=aR (k:=λst₁=>(db st₁).bind _) e (aR e' rfl)
theorem Ey {m:M} (hm:m∈lL) {ma mf:Nat} (hn:∀p∈K,p.1≠ma/\p.1≠mf) (nf:mf≠ma) {ev:V} (he:iQ ev m) (h0:L.lookup 0=some ev) (h4:L.lookup 4=some (.ref ma)) (h7:L.lookup 7=some (.str (word m))) (h8:L.lookup 8=some (.ref mf)) (fr:∀k,9<=k->L.lookup k=none):∀(xs:List k5),(∀x∈xs,iW x)->∀(H:aj) (loc:c8),bP ((ma,eO)::(mf,Is (.list []))::K) H->Loc 19 L loc->
  ∃H' a6,iT (bx (ao (ah 9) (ao (ah 10) (ao (ah 11) bf)))) Cz (xs.map rv) ⟨H,loc⟩=some (.next,⟨H',a6⟩)/\bP ((ma,eO)::(mf,Is (.list (((xs.find? λx=>gG x.1.1 m).map λx=>dq x.1).toList)))::K) H'/\Loc 19 L a6:=by
 intro xx
 induction xx with
 |nil=>
  intro _ H loc hh hl
  exact⟨H,loc,rfl,hh,hl⟩
 |cons x xs ih=>
  intro ok H loc hh hl
  refine x3 ((Tg.tup (.cons (.var (by decide)) (.cons (.var (by decide)) (.cons (.var (by decide)) .nil))):Tg 19 (bx (ao (ah 9) (ao (ah 10) (ao (ah 11) bf)))) (rv x) _) H loc L hl) λl1 e1 pN=>?_
  have up:∀{k v},L.lookup k=some v->k<9:=λ{k v} h=>Nat.lt_of_not_le λz=>nomatch(fr k z).symm.trans h
  have ne:∀{k j:Nat},k<9->9<=j->(k==j)=false:=λh1 h2=>bu.2 (by exact Y70 h2 h1)
  have OA:∀{k v a b c},L.lookup k=some v->([(11,a),(10,b),(9,c)]++L:aE).lookup k=some v:=λ{k v a b c} h=>lk (lk (lk h (ne (up h) (by decide))) (ne (up h) (by decide))) (ne (up h) (by decide))
  refine x5 (Ex (L:=[(11,dq x.1),(10,x.1.1.v),(9,.str (want x.1.1 x.2))]++L) (ok x (.head _)) hm hn nf he (OA h0) (OA h4) (OA h7) (OA h8) rfl rfl rfl H l1 hh pN) λH2 l2 e2 tG nB=>?_
  have wi:=nB.mono (L':=L) λk v h=>lk (OA h) (ne (up h) (by decide))
  rw[kL]
  cases q:gG x.1.1 m with
  |true=>
   rw[q]at e2 tG
   exact⟨H2,l2,z9 e1 e2,tG,wi⟩
  |false=>
   rw[q]at e2 tG
   refine x4 (ih (λy hy=>ok y (.tail _ hy)) H2 l2 tG wi) λH3 l3 e3 w=>?_
   exact⟨H3,l3,j8 e1 e2 e3,w⟩
end
section
variable{n:Nat} {K K':HK} {L L':aE}
def D4 (cl:Cl) (t:List Rl):Cl:=t.foldl (λc ρ=>eE c (word ρ.1) 1) cl
structure rQ (K:HK) (v:V) (rl:List k5):Prop where
 sl:∀H,bP K H->∀lo hi,kr H v lo hi=some (.lst (sl (rl.map rv) lo hi))
 ln:∀H,bP K H->Kn H v=some rl.length
theorem rQ.l (rl:List k5):rQ K (.lst (rl.map rv)) rl:=⟨λU U U U=>rfl,λU U=>ak some (aD _)⟩
theorem rQ.r {m:Nat} {rl:List k5} (h:(m,Is (.list (rl.map rv)))∈K):rQ K (.ref m) rl:=⟨λH hh lo hi=>gH (x:=b8 H (.ref m)) (e_ (hh.is h)),λH hh=>(gH (x:=b8 H (.ref m)) (e_ (hh.is h))).trans (ak some (aD _))⟩
theorem rQ.up {v:V} {rl:List k5} (h:rQ K v rl) (s:∀p∈K,p∈K'):rQ K' v rl:=⟨λH hh=>h.sl H (bP.sub s H hh),λH hh=>h.ln H (bP.sub s H hh)⟩
noncomputable def yX (k:Nat) (rl:List k5):List k5:=rl.drop k++rl.take k
def rI:DI:=cI (jr lG (cS (aa 1) (dP (aa 5)) ti) (cS (aa 1) ti (dP (aa 5))))
theorem DD {H:aj} {m:Nat} (h:H[m]?=some (some (.list []))):eqZ H (.ref m) (.lst [])=some true:=
 zX ((r6 (by rw[qB h];rfl) rfl).trans (by rw[qB h];rfl))
theorem Mz {H:aj} {m:Nat} {ρ:Rl} (h:H[m]?=some (some (.list [dq ρ]))):eqZ H (.ref m) (.lst [])=some false:=by
 have e:Nj H (.ref m) (.lst [])=none:=by
  have d:cR H (.ref m)= .lst [dq ρ]:=qB h
  have o:jl 8 (V.lst [dq ρ])=false:=by
   rw[kF,d9]
   exact(ak (·&&_) (show jl 7 (dq ρ)=false by simp only[dq,vd,d9,z0,kK,og])).trans (kK _)
  show((if(jl 8 (cR H (.ref m))&&jl 8 (cR H (.lst [])))=true then _ else none).or (Kw H (.ref m) (.lst [])))=none
  rw[d,o];rfl
 have g:zc _root_.id H (.ref m) (.lst [])=some false:=aR (e_ h) (aR (x:=b8 H (.lst [])) rfl (ag (show([dq ρ]:aq).length≠([]:aq).length from qL 0)))
 simp only[eqZ,AQ,e,g,Option.none_or,l9]
theorem Jk (m:M) (xs:List k5):(xs.map (·.1)).find? (λρ=>gG ρ.1 m)=(xs.find? λx=>gG x.1.1 m).map (·.1):=by
 rw[List.find?_map];rfl
theorem KY {m:M} (hm:m∈lL) {ma:Nat} (hn:∀p∈K,p.1≠ma) {k:Int} {cl:Cl} {N:Nat} (hc:eN N cl) (hN:N<=400) {vr:V} {rl:List k5} (hr:rQ K vr rl) (ok:∀x∈rl,iW x) (FV:rl.length<=1000) {z:Nat} (H:aj) (loc:c8) (hh:bP ((ma,eO)::K) H) (hl:Loc 19 [(5,.int z),(4,.ref ma),(1,vr),(0,ent m k cl)] loc):
  ∃H' a6,bP ((ma,eO)::K) H'/\match(yX z rl).find? (λx=>gG x.1.1 m)with
   |none=>Cy ⟨H,loc⟩=some (.brk,⟨H',a6⟩)/\Loc 19 [(5,.int z),(4,.ref ma),(1,vr),(0,ent m k cl)] a6
   |some x=>Cy ⟨H,loc⟩=some (.next,⟨H',a6⟩)/\Loc 19 [(5,.int z),(4,.ref ma),(1,vr),(0,ent (ap x.1 m) k (eE cl (word x.1.1) 1))] a6:=by
 have d4:=dH.1 hm
 refine x3 ((Ev.cM (n:=19) (L:=[(5,.int z),(4,.ref ma),(1,vr),(0,ent m k cl)]) (.and (.var rfl) .no) (fV (iQ.ent m k cl) (by exact FG d4.2)):Ev 19 ((ma,eO)::K) _ (aN aU (ae (aa 0) az)) _) H loc hh hl) λH1 e1 h1=>?_
 have a1:gD 7 8 (bb (ae (aN aU (ae (aa 0) az)) (ae (iS az) az))) ⟨H,loc⟩=some (.next,⟨H1++[some (.list [])],(loc.set 8 (some (.ref H1.length))).set 7 (some (.str (word m)))⟩):=by
  exact aR (a:=(.tup [.str (word m),.ref H1.length],⟨H1++[some (.list [])],loc⟩)) (aR (a:=([.str (word m),.ref H1.length],⟨H1++[some (.list [])],loc⟩)) (aR e1 rfl) rfl) rfl
 have nm:=h1.ne (aF _)
 have nf:H1.length≠ma:=λe=>nm (ma,eO) (.head _) e.symm
 have h2:bP ((ma,eO)::(H1.length,Is (.list []))::K) (H1++[some (.list [])]):=(h1.new (.list [])).sw
 have nB:=(hl.set 8 (.ref H1.length) (by decide)).set 7 (.str (word m)) (by decide)
 generalize H1.length=mf at a1 nm nf h2 nB
 have FE:∀p∈K,p.1≠ma/\p.1≠mf:=λp hp=>⟨hn p hp,nm p (.tail _ hp)⟩
 have up:∀p∈K,p∈(ma,eO)::(mf,Is (.list []))::K:=λp hp=>.tail _ (.tail _ hp)
 have hr2:=hr.up up
 have it:mI 19 ((ma,eO)::(mf,Is (.list []))::K) ((7,.str (word m))::(8,.ref mf)::[(5,.int z),(4,.ref ma),(1,vr),(0,ent m k cl)]) rI ((yX z rl).map rv):=by
  refine .iter (.KD (x:=.lst ((rl.map rv).drop z)) (y:=.lst ((rl.map rv).take z)) (.slice (i:=some (z:Int)) (j:=none) (.var rfl) (.p (.var rfl)) .p0 λH h=>?_) (.slice (i:=none) (j:=some (z:Int)) (.var rfl) .p0 (.p (.var rfl)) λH h=>?_) λH h=>?_) rfl
  ·rw[hr2.sl H h,Dl]
  ·rw[hr2.sl H h,yq]
  ·refine aR (x:=b8 H (.lst _)) rfl (aR (x:=b8 H (.lst _)) rfl ((ag ?_).trans ?_))
   ·simp only[i9,i_,aD];exact Y72 FV
   ·simp only[yX,cF,List.map_drop,List.map_take]
 refine x3 (it _ _ h2 nB) λH3 e3 h3=>?_
 have okr:∀x∈yX z rl,iW x:=λx hx=>(bF.1 hx).elim (λh=>ok x (qW h)) λh=>ok x (kW h)
 refine x5 (Ey (L:=(7,.str (word m))::(8,.ref mf)::[(5,.int z),(4,.ref ma),(1,vr),(0,ent m k cl)]) hm FE nf (iQ.ent m k cl) rfl rfl rfl rfl (NK rfl) (yX z rl) okr H3 _ h3 nB) λH4 l4 e4 h4 Cs=>?_
 have a2:gJ rI (bx (ao (ah 9) (ao (ah 10) (ao (ah 11) bf)))) Cz ⟨H1++[some (.list [])],(loc.set 8 (some (.ref mf))).set 7 (some (.str (word m)))⟩=some (.next,⟨H4,l4⟩):=aR e3 e4
 have keep:∀{l:c8},Loc 19 ((7,.str (word m))::(8,.ref mf)::[(5,.int z),(4,.ref ma),(1,vr),(0,ent m k cl)]) l->Loc 19 [(5,.int z),(4,.ref ma),(1,vr),(0,ent m k cl)] l:=λh=>h.sub (.c rfl (.c rfl (.c rfl (.c rfl .n))))
 cases q:(yX z rl).find? λx=>gG x.1.1 m with
 |none=>
  rw[q]at h4
  have t:j_ 19 ((ma,eO)::(mf,Is (.list []))::K) ((7,.str (word m))::(8,.ref mf)::[(5,.int z),(4,.ref ma),(1,vr),(0,ent m k cl)]) (aS eqZ (aa 8) (eL az)) true:=.cmp (.var rfl) (.lst .no (bN _)) λH h=>DD (h.is (.tail _ (.head _)))
  refine x3 (t H4 l4 h4 Cs) λH5 e5 h5=>?_
  exact⟨H5,l4,h5.sw.drop,aR a1 (aR a2 (aR (aR e5 rfl) rfl)),keep Cs⟩
 |some x=>
  rw[q]at h4
  have hx:=okr x (pf q)
  have hle:=kM (p:=λx:k5=>gG x.1.1 m) q
  have t:j_ 19 ((ma,eO)::(mf,Is (.list [dq x.1]))::K) ((7,.str (word m))::(8,.ref mf)::[(5,.int z),(4,.ref ma),(1,vr),(0,ent m k cl)]) (aS eqZ (aa 8) (eL az)) false:=.cmp (.var rfl) (.lst .no (bN _)) λH h=>Mz (h.is (.tail _ (.head _)))
  refine x3 (t H4 l4 h4 Cs) λH5 e5 h5=>?_
  have UL:=dH.1 hx.l
  have s:Sn 19 ((ma,eO)::(mf,Is (.list [dq x.1]))::K) ((7,.str (word m))::(8,.ref mf)::[(5,.int z),(4,.ref ma),(1,vr),(0,ent m k cl)]) (ba (ah 0) (aN cD (ae (aa 0) (ae (aH (aa 8) (dC (.int 0))) az)))) _:=
   .fH (by decide) (.cM (.and (.var rfl) (.and (.idx (x:=.ref mf) (y:=.int 0) (.var rfl) .con λH h=>mY (i:=0) (h.is (.tail _ (.head _))) rfl) .no)) (vK hc hN (ρ:=x.1) (by exact FG UL.2) hle k))
  refine x5 (s H5 l4 h5 Cs) λH6 l6 e6 h6 U6=>?_
  refine⟨H6,l6,h6.sw.drop,aR a1 (aR a2 (aR (aR e5 rfl) (aR e6 rfl))),U6.sub (.c rfl (.c rfl (.c rfl (.c rfl .n))))⟩
theorem Eo {ma:Nat} (hn:∀p∈K,p.1≠ma) {k:Int} {vr:V} {rl:List k5} (hr:rQ K vr rl) (ok:∀x∈rl,iW x) (FV:rl.length<=1000) {z:Nat}:∀(vs:aq) (m:M) (cl:Cl) (N:Nat),m∈lL->eN N cl->N+vs.length<=400->∀(H:aj) (loc:c8),bP ((ma,eO)::K) H->Loc 19 [(5,.int z),(4,.ref ma),(1,vr),(0,ent m k cl)] loc->
  ∃H' a6,iT (ah 6) Cy vs ⟨H,loc⟩=some (.next,⟨H',a6⟩)/\bP ((ma,eO)::K) H'/\Loc 19 [(5,.int z),(4,.ref ma),(1,vr),(0,ent (run (te ((yX z rl).map (·.1)) vs.length m) m) k (D4 cl (te ((yX z rl).map (·.1)) vs.length m)))] a6:=by
 intro xx
 induction xx with
 |nil=>
  intro m cl N _ _ _ H loc hh hl
  exact⟨H,loc,rfl,hh,hl⟩
 |cons v vs ih=>
  intro m cl N hm hc hN H loc hh hl
  rw[bQ]at hN
  have pN:=(hl.set 6 v (by decide)).sub (L':=[(5,.int z),(4,.ref ma),(1,vr),(0,ent m k cl)]) (.c rfl (.c rfl (.c rfl (.c rfl .n))))
  refine x4 (KY hm hn hc (by exact Y79 hN) hr ok FV H _ hh pN) λH2 l2 h2 w=>?_
  have fs:=Jk m (yX z rl)
  rw[bQ]
  rw[uB]
  cases q:(yX z rl).find? λx=>gG x.1.1 m with
  |none=>
   rw[q]at w fs
   rw[show((yX z rl).map (·.1)).find? (λρ=>gG ρ.1 m)=none from fs]
   exact⟨H2,l2,z9 rfl w.1,h2,w.2⟩
  |some x=>
   rw[q]at w fs
   rw[show((yX z rl).map (·.1)).find? (λρ=>gG ρ.1 m)=some x.1 from fs]
   have hle:=kM (p:=λx:k5=>gG x.1.1 m) q
   have hx:iW x:=(bF.1 (pf q)).elim (λh=>ok x (qW h)) λh=>ok x (kW h)
   have hm2:ap x.1 m∈lL:=dH.2 (by rw[sU hx.d hle];exact dH.1 hm)
   have UL:=dH.1 hx.l
   refine x4 (ih (ap x.1 m) (eE cl (word x.1.1) 1) (N+1) hm2 (hc.add (by rw[d7];exact FG UL.2) 1) (by exact Y80 hN) H2 l2 h2 w.2) λH3 l3 e3 w3=>?_
   exact⟨H3,l3,j8 rfl w.1 e3,w3⟩
theorem DJ {ma:Nat} (hn:∀p∈K,p.1≠ma) {m:M} (hm:m∈lL) {k:Int} {cl:Cl} {N:Nat} (hc:eN N cl) (hN:N<=300) {vr:V} {rl:List k5} (hr:rQ K vr rl) (ok:∀x∈rl,iW x) (FV:rl.length<=1000) (pick:Nat) (od:V):
  Fn ((ma,eO)::K) gv [ent m k cl,vr,.int pick,od,.ref ma] (ent (dn ((yX (pick %(rl.length+1)) rl).map (·.1)) m) k (D4 cl (te ((yX (pick %(rl.length+1)) rl).map (·.1)) 15 m))):=by
 refine Fn.ofK rfl λH loc hh hl=>?_
 have up:∀p∈K,p∈(ma,eO)::K:=λp hp=>.tail _ hp
 have s1:Sn 19 ((ma,eO)::K) [(0,ent m k cl),(1,vr),(2,.int pick),(3,od),(4,.ref ma)] (ba (ah 5) (aB fw (aa 2) (aB addW (a5 iN (ae (aa 1) az)) (dC (.int 1))))) _:=
  .fH (v:=.int ((pick %(rl.length+1):Nat):Int)) (by decide) (.bin (x:=.int pick) (y:=.int ((rl.length+1:Nat):Int)) (.var rfl) (.bin (x:=.int rl.length) (y:=.int 1) (.call (.and (.var rfl) .no) λH h=>by rw[rZ,(hr.up up).ln H h];rfl) .con rfl) (eG _ _ (Nat.succ_pos _)))
 refine x5 (s1 H loc hh hl) λH1 l1 e1 h1 pN=>?_
 have nB:=pN.sub (L':=[(5,.int ((pick %(rl.length+1):Nat):Int)),(4,.ref ma),(1,vr),(0,ent m k cl)]) (.c rfl (.c rfl (.c rfl (.c rfl .n))))
 refine x3 ((mI.range (n:=19) (K:=(ma,eO)::K) (L:=[]) (i:=0) (j:=15) (k:=1) (.and .con .no) rfl (by kernel_rfl):mI 19 _ _ (cZ (ae (dC (.int 15)) az)) (eZ 0 15 1)) H1 l1 h1 ⟨nB.1,nofun⟩) λH2 e2 h2=>?_
 refine x5 (Eo hn hr ok FV (eZ 0 15 1) m cl N hm hc (by rw[show(eZ 0 15 1).length=15 by kernel_rfl];exact Y81 hN) H2 l1 h2 nB) λH3 l3 e3 h3 wi=>?_
 have hr0:l3[0]?=some (some (ent (dn ((yX (pick %(rl.length+1)) rl).map (·.1)) m) k (D4 cl (te ((yX (pick %(rl.length+1)) rl).map (·.1)) 15 m)))):=wi.2 0 _ rfl
 exact⟨H3,l3,aR e1 (aR (aR e2 e3) (aR (aR (x:=aa 0 ⟨H3,l3⟩) (gH (ak Option.join hr0)) rfl) rfl)),h3⟩
end
section
variable{n:Nat} {K K':HK} {L L':aE}
noncomputable def jV (js:List (Option Nat)) (L:aE):c8:=js.map λo=>o.bind λj=>L.lookup j
theorem Yc {js:List (Option Nat)} {loc:c8} (hl:Loc n L loc) (hj:(js.all λo=>o.elim true λj=>(L.lookup j).isSome)=true):qk js loc=jV js L:=jg λo ho=>by
 cases o with
 |none=>rfl
 |some j=>
  have :=aI.1 hj _ ho
  obtain⟨v,hv⟩:=m8.1 (show(L.lookup j).isSome=true from this)
  show(loc[j]?).join=L.lookup j
  rw[hv,hl.2 j v hv];rfl
theorem vq {di:DI} {js:List (Option Nat)} {da:DA} {dt:DT} {de:bJ->gf} {vs:aq} {acc r:bJ} {A:aq} (hi:mI n K L di vs) (hj:(js.all λo=>o.elim true λj=>(L.lookup j).isSome)=true)
  (h:∀H,bP K H->∃H',(gh da dt de vs acc ⟨H,jV js L⟩).map (λx=>(x.1,x.2.H))=some (r,H')/\bP K H'):∀H loc,bP K H->Loc n L loc->∃H',a9 di js da dt de acc ⟨H,loc⟩=some (r,⟨H',loc⟩)/\bP K H':=λH loc hh hl=>by
 refine x3 (hi H loc hh hl) λH1 e1 h1=>?_
 refine x3 (h H1 h1) λH2 e2 h2=>?_
 refine x3 (aO.1 e2) λx ex e2=>?_
 cases e2
 refine⟨_,aR e1 ?_,h2⟩
 show(gh da dt de vs acc ⟨H1,qk js loc⟩).map _=_
 rw[Yc hl hj,ex];rfl
theorem Ev.C2 {di:DI} {js:List (Option Nat)} {da:DA} {dt:DT} {de:bJ->gf} {vs:aq} {acc r:bJ} (hi:mI n K L di vs) (hj:(js.all λo=>o.elim true λj=>(L.lookup j).isSome)=true)
  (h:∀H,bP K H->∃H',(gh da dt de vs acc ⟨H,jV js L⟩).map (λx=>(x.1,x.2.H))=some (r,H')/\bP K H'):Ev n K L (fS (a9 di js da dt de acc)) (zp r):=λH loc hh hl=>
 (vq (A:=[]) hi hj h H loc hh hl).imp λH' w=>⟨(ak (Option.map _) w.1).trans rfl,w.2⟩
theorem SK.extend {o a:D} {m:Nat} {l us:aq} (ho:Ev n ((m,Is (.list l))::K) L o (.ref m)) (ha:Ev n ((m,Is (.list l))::K) L a (.lst us)) (AX:l.length+us.length<=16777216) (hn:∀p∈K,p.1≠m):SK n ((m,Is (.list l))::K) L (fU (bC ry i6 o (ae a az))) ((m,Is (.list (l++us)))::K) L:=λH loc hh hl=>
 (ho H loc hh hl).elim λH₁ ff=>(ha H₁ loc ff.2 hl).elim λbT cX=>
  have hm:=cX.2.at
  have k:ry H₁ (.ref m)=true:=ak Option.isSome (e_ ff.2.at)
  have z:i6 bT (.ref m) [.lst us]=some (.none,bT.set m (some (.list (l++us)))):=by
   have e:Ux bT (λl=>if l.length+us.length<=16777216 then some (l++us)else none) (.ref m)=some (.none,bT.set m (some (.list (l++us)))):=aR (x:=dE bT m) (e_ hm) (gH (ag AX))
   show Option.or (Ux bT (λl=>if l.length+us.length<=16777216 then some (l++us)else none) (.ref m)) _=_
   rw[e];rfl
  ⟨_,loc,aR (aR ff.1 (D0 k (aR (aR cX.1 rfl) (gH z)))) rfl,cX.2.drop.upd m _ _ rfl (bO.1 hm).1 hn,hl⟩
def tv (x:Ak):V:=.tup [.str (cL cP x.1),.str x.2.1,.bool x.2.2]
theorem Sq:AllP (λm=>∀H,(gh (ah 1) dp (aK N_) [.int 1,.int (dg m)] (.list []) ⟨H,[none,none,none,none,some (.str (word m))]⟩).map (λx=>(x.1,x.2.H))=some (.list ((q1 m).map tv),H)) lL:=by
 rw[ym]
 repeat' first|exact True.intro|refine And.intro ?_ ?_
 all_goals exact λH=>by kernel_rfl
theorem Ss:AllP (λm=>∀H,(gh (bx (ao (ah 1) (ao (ah 2) bf))) dp (aK Oa) [.tup [.int 2,.int 1],.tup [.int 2,.int 2],.tup [.int 3,.int 2],.tup [.int 3,.int 3]] (.list []) ⟨H,[none,none,none,some (.str (word m))]⟩).map (λx=>(x.1,x.2.H))=some (.list ((q2 m).map tv),H)) lL:=by
 rw[ym]
 repeat' first|exact True.intro|refine And.intro ?_ ?_
 all_goals exact λH=>by kernel_rfl
theorem Su:AllP (λm=>AllP (λ(i:Nat)=>∀H,(gh (ah 1) dp (aK Ob) (eZ ((i %2:Nat):Int) ((dg m+1:Nat):Int) 2) (.list []) ⟨H,[none,none,some (.str (word m)),some (.str (word (ad m (un i))))]⟩).map (λx=>(x.1,x.2.H))=some (.list (((q3 m i).map tv).tail),H)) s3) lL:=by
 rw[ym]
 repeat' first|exact True.intro|refine And.intro ?_ ?_
 all_goals exact λH=>by kernel_rfl
theorem aau (m:M) (i:Nat) (hi:i<3) (c:Int) (h0:0<=c) (h2:c<=2):atC (ad m (un i)) c=atC m c+if c=(i:Int)then 1 else 0:=by
 have e:c=0\/c=1\/c=2:=by exact UP h0 h2
 match i,hi with
 |0,_=>rcases e with rfl|rfl|rfl<;>rfl
 |1,_=>rcases e with rfl|rfl|rfl<;>rfl
 |2,_=>rcases e with rfl|rfl|rfl<;>rfl
theorem Jy (m:M) (i:Nat) (hi:i<3):∀ks:Ky,(∀p∈ks,0<=p.1/\p.1<=2)->fg ks (ad m (un i)) m=(ks.lookup (i:Int)).getD 0/\fg ks m (ad m (un i))=-(ks.lookup (i:Int)).getD 0:=by
 intro xx
 induction xx with
 |nil=>
  intro _
  exact⟨rfl,rfl⟩
 |cons p r ih=>
  intro h
  have hp:=h p (.head _)
  have ih:=ih λq hq=>h q (.tail _ hq)
  have e:=aau m i hi p.1 hp.1 hp.2
  simp only[fg,u4,iB]at ih |-
  rw[bG]
  by_cases q:p.1=(i:Int)
  ·rw[ag q]at e
   rw[af (by exact Y82 e),ag (by exact Y83 e),ag (by exact Y83 e),show((i:Int)==p.1)=true from beq_iff_eq.2 q.symm];exact⟨rfl,rfl⟩
  ·rw[af q]at e
   rw[af (by exact Y84 e),af (by exact Y85 e),af (by exact Y85 e),af (by exact Y84 e),show((i:Int)==p.1)=false from bu.2 λz=>q z.symm];exact ih
theorem L0 {m:M} {k:Int} {cl:Cl} {i:Nat} (hi:i<3) (h0:L.lookup 0=some (ent m k cl)) (h6:L.lookup 6=some (.int (i:Int))):Ev n K L (aB addW (aB addW (cS (aa 0) ti (dP (aa 6))) (bb (ae (aB addW (aH (aa 0) (aa 6)) (dC (.int 1))) az))) (cS (aa 0) (dP (aB addW (aa 6) (dC (.int 1)))) (dP (dC (.int 3))))) (ad m (un i)).v:=by
 have a:∀(x y:aq) (c:Int),(∀H,kr H (ent m k cl) none (some (i:Int))=some (.tup x))->(∀H,gC H (ent m k cl) (.int i)=some (.int c))->(∀H,kr H (ent m k cl) (some ((i:Int)+1)) (some 3)=some (.tup y))->addW (.tup (x++[.int (c+1)])) (.tup y)=some (ad m (un i)).v->addW (.tup x) (.tup [.int (c+1)])=some (.tup (x++[.int (c+1)]))->Ev n K L (aB addW (aB addW (cS (aa 0) ti (dP (aa 6))) (bb (ae (aB addW (aH (aa 0) (aa 6)) (dC (.int 1))) az))) (cS (aa 0) (dP (aB addW (aa 6) (dC (.int 1)))) (dP (dC (.int 3))))) (ad m (un i)).v:=λx y c h1 h2 h3 h4 h5=>
  .bin (.bin (.slice (.var h0) .p0 (.p (.var h6)) λH U=>h1 H) (.tup (.and (.bin (y:=.int 1) (.idx (.var h0) (.var h6) λH U=>h2 H) .con rfl) .no) (ay rfl)) h5) (.slice (.var h0) (.p (.bin (x:=.int i) (y:=.int 1) (v:=.int ((i:Int)+1)) (.var h6) .con rfl)) (.p .con) λH U=>h3 H) h4
 rcases(by exact Y86 hi:i=0\/i=1\/i=2)with rfl|rfl|rfl
 ·exact a [] [.int m.2.1,.int m.2.2] m.1 (λH=>by kernel_rfl) (λH=>by kernel_rfl) (λH=>by kernel_rfl) (by kernel_rfl) (by kernel_rfl)
 ·exact a [.int m.1] [.int m.2.2] m.2.1 (λH=>by kernel_rfl) (λH=>by kernel_rfl) (λH=>by kernel_rfl) (by kernel_rfl) (by kernel_rfl)
 ·exact a [.int m.1,.int m.2.1] [] m.2.2 (λH=>by kernel_rfl) (λH=>by kernel_rfl) (λH=>by kernel_rfl) (by kernel_rfl) (by kernel_rfl)
theorem SK.abt {k:Nat} {c:gf} {r:bJ} {e:DS} (hk:k<n) (hc:∀H loc,bP K H->Loc n L loc->∃H',c ⟨H,loc⟩=some (r,⟨H',loc⟩)/\bP K H') (h:∀m,(∀p∈K,p.1≠m)->SK n ((m,Is r)::K) ((k,.ref m)::L) e K' L'):SK n K L (ax (ba (ah k) (Fu c)) e) K' L':=λH loc hh hl=>by
 refine x3 (hc H loc hh hl) λH1 e1 h1=>?_
 refine x4 (h H1.length (h1.ne (aF _)) _ _ (h1.new r) (hl.set k (.ref H1.length) hk)) λH2 l2 e2 w=>?_
 exact⟨H2,l2,aR (x:=ba (ah k) (Fu c) ⟨H,loc⟩) (a:=(.next,⟨H1++[some r],loc.set k (some (.ref H1.length))⟩)) (aR (x:=Fu c ⟨H,loc⟩) (a:=(.ref H1.length,⟨H1++[some r],loc⟩)) ((ak (Option.map _) e1).trans rfl) rfl) e2,w⟩
theorem SK.fz {k m:Nat} {l l':aq} {d:DS} (hk:k<n) (h:SK n ((m,Is (.list l))::K) L d ((m,Is (.list l'))::K) L') (ho:L'.lookup k=some (.ref m)) (hn:∀p∈K,p.1≠m):SK n ((m,Is (.list l))::K) L (tn k d) K ((k,.lst l')::L'):=λH loc hh hl=>by
 refine x5 (h H loc hh hl) λH1 l1 e1 h1 pN=>?_
 exact⟨H1.set m .none,l1.set k (some (.lst l')),aR e1 (gH (x:=Internal.Ni k ⟨H1,l1⟩) (aR (ak Option.join (pN.2 k _ ho)) (gH (CU h1.at)))),h1.drop.set m .none hn,pN.set k _ hk⟩
theorem Fn.nx {m k:Nat} {db:DS} {vs:aq} {K':HK} (hm:vs.length=m) (h:SK (m+k) K ((List.range m).zip vs) db K' L') (w:∀H,bP K' H->bP K H):Fn K (tH m k db) vs .none:=λH hh=>by
 have hl:Loc (m+k) ((List.range m).zip vs) (vs.map some++List.replicate k .none):=⟨by simp[hm],λj u e=>by
  obtain⟨i,hi,e⟩:=List.mem_iff_getElem.1 (lookup_mem e)
  rw[List.getElem_zip]at e
  simp only[qP,l8]at e
  obtain⟨rfl,rfl⟩:=e
  rw[gT,ez]at hi
  rw[ly (by simp;exact KI hi),aQ,bZ (by exact KI hi)];rfl⟩
 obtain⟨H1,l1,e1,h1,_⟩:=h H _ hh hl
 exact⟨H1,(ag hm).trans (aR e1 rfl),w H1 h1⟩
end
section
variable{n:Nat} {K K':HK} {L L':aE}
def y6 (m:M):Nat->List Ak
 |0=>q1 m++q2 m
 |i+1=>y6 m i++q3 m i
theorem GZ {m:M} (h:dg m<=4) (i:Nat):((q3 m i).map tv).length<=6:=by
 simp only[q3,aD,bQ]
 have :=List.length_filter_le (λp=>Nat.beq (p %2) (i %2)) (List.range ((word m).length+1))
 rw[ez,d7]at this
 rw[d7];exact Y87 h this
theorem DU {m:M} (h:dg m<=4):∀i,(y6 m i).length<=6+i*6:=by
 intro xx
 induction xx with
 |zero=>
  exact ay rfl
 |succ i ih=>
  have :=ih
  have :=GZ h i
  rw[aD]at this
  rw[show y6 m (i+1)=y6 m i++q3 m i from rfl,bH];exact Y88 ‹_› this
theorem He {m:M} {k:Nat} (h:L.lookup k=some (.str (word m))):Ev n K L (a5 iN (ae (aa k) az)) (.int (dg m)):=.call (.and (.var h) .no) λH U=>by rw[rZ];show some (V.int ((word m).length:Nat))=_;rw[d7]
def hL (m:M) (k:Int) (cl:Cl) (ks:Ky) (mo mf:Nat):aE:=[(5,.ref mf),(4,.str (word m)),(3,.ref mo),(2,.cmp (rx ks)),(1,.AP ks),(0,ent m k cl)]
theorem Uj {m:M} (hm:m∈lL) {x:Ak} (hx:x∈y6 m 3):Fn K a8 [.str (cL cP x.1),.str x.2.1] (.bool x.2.2):=by
 have h:=aI.1 (aI.1 JE m hm) x hx
 simp only[bp,aI,beq_iff_eq]at h
 rw[<-h.1]
 exact N5 x.1 x.2.1 (λe=>by rw[e]at h;exact nomatch h.2.2.2.1) (λw hw=>(mS (h.2.1 w hw)).1) (λw hw=>(mS (h.2.1 w hw)).2) (mS h.2.2.1).2 (ay h.2.2.2.2)
theorem Df {ks:Ky} {i:Nat} (h1:L.lookup 1=some (.AP ks)) (h6:L.lookup 6=some (.int (i:Int))):Ev n K L (bC xK nT (aa 1) (ae (aa 6) (ae (dC (.int 0)) az))) (.int ((ks.lookup (i:Int)).getD 0)):=
 .FR (x:=.AP ks) (vs:=[.int i,.int 0]) (.var h1) (.and (.var h6) (.and .con .no)) (λH h=>⟨H,by
  have e:CF H (.AP ks) [.int i,.int 0]=some (.int ((ks.lookup (i:Int)).getD 0),H):=by
   show some ((ks.lookup (i:Int)).elim (V.int 0) V.int,H)=_
   cases ks.lookup (i:Int)<;>rfl
  show Option.or none (CF H (.AP ks) [.int i,.int 0])=_
  rw[e];rfl,h⟩) (λU U=>rfl)
theorem AD {m:M} (hm:m∈lL) {ks:Ky} (o:jX ks) {k:Int} {cl:Cl} {mo mf:Nat} (hn:∀p∈K,p.1≠mo/\p.1≠mf) (nf:mf≠mo) (i:Nat) (hi:i<3):
  SK 13 ((mf,Is (.list ((y6 m i).map tv)))::(mo,Is (.list []))::K) ((6,.int (i:Int))::hL m k cl ks mo mf) Gb ((mf,Is (.list ((y6 m (i+1)).map tv)))::(mo,Is (.list []))::K) (hL m k cl ks mo mf):=by
 have d:=dH.1 hm
 have ud:dg (un i)=1:=by rcases(by exact Y86 hi:i=0\/i=1\/i=2)with rfl|rfl|rfl<;>rfl
 have cm:=Jy m i hi ks λp hp=>⟨(o.c p hp).1,(o.c p hp).2.1⟩
 have la:=DU d.2 i
 have hs:i∈s3:=by simp only[s3,aC,bh,or_false];exact Y86 hi
 have n1:∀p∈(mo,Is (.list []))::K,p.1≠mf:=λp hp=>(aC.1 hp).elim (λe=>e▸nf.symm) λhp=>(hn p hp).2
 have n2:∀p∈(mf,Is (.list ((y6 m i).map tv)))::K,p.1≠mo:=λp hp=>(aC.1 hp).elim (λe=>e▸nf) λhp=>(hn p hp).1
 refine SK.seq (Sn.fH (by decide) (L0 hi (m:=m) (k:=k) (cl:=cl) rfl rfl)).k ?_
 refine SK.seq (Sn.set (v:=.tup [.str (word (ad m (un i))),.lst [.int (fg ks (ad m (un i)) m),.int (fg ks m (ad m (un i)))]]) (.tup (.and (.cM (.and (.var rfl) .no) (fV (iQ.v _) (by rw[ko,ud];exact Y89 d.2))) (.and (.lst (.and (.fg (.var rfl) (.and (.var rfl) (.and (.var rfl) .no)) (BK o (iQ.v _) (iQ.ent m k cl))) (.and (.fg (.var rfl) (.and (.var rfl) (.and (.var rfl) .no)) (BK o (iQ.ent m k cl) (iQ.v _))) .no)) (ay rfl)) .no)) (ay rfl)) (Tg.two (by decide) (by decide))).k ?_
 refine SK.seq (SK.pre (SK.wk (SK.extend (m:=mo) (l:=[]) (us:=[]) (.var rfl) (.Pl (.cmp (x:=.lst [.int (fg ks (ad m (un i)) m),.int (fg ks m (ad m (un i)))]) (y:=.lst [.int ((ks.lookup (i:Int)).getD 0),.int (-(ks.lookup (i:Int)).getD 0)]) (.var rfl) (.lst (.and (Df rfl rfl) (.and (.neg (Df rfl rfl)) .no)) (ay rfl)) λH U=>?_) (.lst .no (bN _))) (bN _) n2) λH h=>h.sw) λH h=>h.sw) ?_
 ·rw[cm.1,cm.2]
  refine zX ((DF rfl rfl).trans ?_)
  rw[j7,j7]
  show some (((_:Int)==_)&&(((_:Int)==_)&&true))=_
  rw[beq_self_eq_true,beq_self_eq_true];rfl
 have q3h:(q3 m i).map tv= .tup [.str (word m),.str (word (ad m (un i))),.bool false]::((q3 m i).map tv).tail:=by
  show tv ([word m],word (ad m (un i)),false)::_=_
  unfold tv
  rw[show cL cP [word m]=word m from rfl];rfl
 have q3l:=GZ d.2 i
 refine SK.mono (SK.seq (SK.wk (SK.extend (l:=(y6 m i).map tv) (us:=(q3 m i).map tv) (.var rfl) (.KD (x:=.lst [.tup [.str (word m),.str (word (ad m (un i))),.bool false]]) (y:=.lst ((q3 m i).map tv).tail) (.lst (.and (.tup (.and (.var rfl) (.and (.var rfl) (.and .con .no))) (ay rfl)) .no) (ay rfl)) (Ev.C2 (r:=.list ((q3 m i).map tv).tail) (vs:=eZ ((i %2:Nat):Int) ((dg m+1:Nat):Int) 2) (.range (us:=[.int ((i %2:Nat):Int),.int ((dg m+1:Nat):Int),.int 2]) (.and (.bin (.var rfl) .con (eG i 2 (by decide))) (.and (.bin (x:=.int (dg m)) (y:=.int 1) (He rfl) .con rfl) (.and .con .no))) rfl ?_) rfl λH hh=>⟨H,(Su.of m hm).of i hs H,hh⟩) λH U=>?_) (by rw[aD];exact Y90 hi la q3l) n1) λH h=>?_) Sn.fin.k) λj v e=>?_
 ·rcases(by exact Y86 hi:i=0\/i=1\/i=2)with rfl|rfl|rfl<;>rcases(by exact Y91 d.1 d.2:dg m=2\/dg m=3\/dg m=4)with e|e|e<;>rw[e]<;>kernel_rfl
 ·refine(show lG H (.lst [.tup [.str (word m),.str (word (ad m (un i))),.bool false]]) (.lst ((q3 m i).map tv).tail)=_ from ag ?_).trans (ak some q3h.symm)
  rw[q3h]at q3l
  rw[bQ]at q3l
  show 1+_<=_;exact Y92 q3l
 ·rw[show y6 m (i+1)=y6 m i++q3 m i from rfl,cF];exact h
 ·match j with
  |0|1|2|3|4|5=>exact e
  |j+6=>cases e
theorem Mj {m:M} (hm:m∈lL) {ks:Ky} (o:jX ks) {k:Int} {cl:Cl} {mo:Nat} (hn:∀p∈K,p.1≠mo):Fn ((mo,Is (.list []))::K) g9 [ent m k cl,.AP ks,.cmp (rx ks),.ref mo] .none:=by
 have d:=dH.1 hm
 refine Fn.nx (K':=(mo,Is (.list []))::K) (L':=[]) rfl (SK.seq (Sn.fH (by decide) (.cM (.and (.var rfl) .no) (fV (iQ.ent m k cl) (by exact FG d.2)))).k ?_) λH h=>h
 refine SK.abt (r:=.list ((q1 m).map tv)) (by decide) (vq (A:=[]) (vs:=[.int 1,.int (dg m)]) (.iter (x:=.tup [.int 1,.int (dg m)]) (.tup (.and .con (.and (He rfl) .no)) (ay rfl)) rfl) rfl λH hh=>⟨H,Sq.of m hm H,hh⟩) λmf hf=>?_
 have FE:∀p∈K,p.1≠mo/\p.1≠mf:=λp hp=>⟨hn p hp,hf p (.tail _ hp)⟩
 have nf:mf≠mo:=λe=>hf (mo,Is (.list [])) (.head _) e.symm
 refine SK.seq (SK.extend (us:=(q2 m).map tv) (.var rfl) (Ev.C2 (r:=.list ((q2 m).map tv)) (vs:=[.tup [.int 2,.int 1],.tup [.int 2,.int 2],.tup [.int 3,.int 2],.tup [.int 3,.int 3]]) (.iter (x:=.tup [.tup [.int 2,.int 1],.tup [.int 2,.int 2],.tup [.int 3,.int 2],.tup [.int 3,.int 3]]) (.tup (.and (.tup (.and .con (.and .con .no)) (ay rfl)) (.and (.tup (.and .con (.and .con .no)) (ay rfl)) (.and (.tup (.and .con (.and .con .no)) (ay rfl)) (.and (.tup (.and .con (.and .con .no)) (ay rfl)) .no)))) (ay rfl)) rfl) rfl λH hh=>⟨H,Ss.of m hm H,hh⟩) (by simp[q1,q2]) hf) ?_
 have lp:=SK.loop (n:=13) (L:=hL m k cl ks mo mf) (di:=cZ (ae (dC (.int 3)) az)) (da:=ah 6) (db:=Gb) (l:=[.int 0,.int 1,.int 2]) (show eZ 0 3 1=[.int 0,.int 1,.int 2]by kernel_rfl▸mI.range (i:=0) (j:=3) (k:=1) (.and .con .no) rfl (by kernel_rfl)) (λU=>hL m k cl ks mo mf) (λi=>(mf,Is (.list ((y6 m i).map tv)))::(mo,Is (.list []))::K) (λk v h=>h) rfl λi x hx=>?_
 ·refine SK.seq (SK.fz (l:=(y6 m 0).map tv) (l':=(y6 m 3).map tv) (by decide) (SK.pre (K1:=(mf,Is (.list ((y6 m 0).map tv)))::(mo,Is (.list []))::K) (λH loc hh hl=>lp H loc hh (hl.mono λj v e=>?_)) λH h=>h) rfl hf) ?_
  ·match j with
   |0|1|2|3|4|5=>exact e
   |j+6=>cases e
  ·have c:Ev 13 ((mo,Is (.list []))::K) ((5,.lst ((y6 m 3).map tv))::hL m k cl ks mo mf) (fS Ot) (.lst ((((y6 m 3).map tv).filter λU=>false).map λv=>v)):=Ev.comp (λU=>false) (λv=>v) (.iter (.var rfl) rfl) (by rw[aD];have :=DU d.2 3;exact Y93 this) λx hx=>by
    obtain⟨y,hy,rfl⟩:=aY.1 hx
    refine⟨_,.tup (.cons (.var (by decide)) (.cons (.var (by decide)) (.cons (.var (by decide)) .nil))),λk U=>rfl,.cmp (x:=.bool y.2.2) (y:=.bool y.2.2) (.cM (.and (.var rfl) (.and (.var rfl) .no)) (Uj hm hy)) (.var rfl) λH U=>?_,nofun⟩
    simp only[qH,mi]
   rw[List.filter_eq_nil_iff.2 λU U=>eW]at c
   exact SK.mono (SK.seq (SK.extend (l:=[]) (us:=[]) (.var rfl) c (bN _) hn) Sn.fin.k) nofun
 ·have :∃j:Nat,j<3/\i=j/\x= .int (j:Int):=by
   match i with
   |0=>cases hx;exact⟨0,by decide,rfl,rfl⟩
   |1=>cases hx;exact⟨1,by decide,rfl,rfl⟩
   |2=>cases hx;exact⟨2,by decide,rfl,rfl⟩
   |i+3=>cases hx
  obtain⟨j,hj,rfl,rfl⟩:=this
  exact⟨[(6,.int (i:Int))],.var (by decide),AD hm o FE nf i hj⟩
end
section
variable{n:Nat} {K K':HK} {L L':aE}
theorem xy {m:Nat} {Lc:aE} {de:D} {k:Nat} (hk:k<m) (hf:Lc.lookup k=none):∀(zs:List (V×V)) (acc:aq),(∀z∈zs,Ev m K ((k,z.1)::Lc) de z.2)->acc.length+zs.length<=16777216->∀H loc,bP K H->Loc m Lc loc->
  ∃H' a6,gh (ah k) dp (aK de) (zs.map (·.1)) (.list acc) ⟨H,loc⟩=some (.list (acc++zs.map (·.2)),⟨H',a6⟩)/\bP K H':=by
 intro xx
 induction xx with
 |nil=>
  intro acc _ _ H loc hh hl
  exact⟨H,loc,by rw[fB,fB,eh];rfl,hh⟩
 |cons z zs ih=>
  intro acc hb hn H loc hh hl
  rw[bQ]at hn
  have h1:=hl.set k z.1 hk
  refine x3 (hb z (.head _) H _ hh h1) λH2 e2 tG=>?_
  refine x4 (ih (acc++[z.2]) (λy hy=>hb y (.tail _ hy)) (by rw[bH,eA];exact Wm hn) H2 _ tG (h1.mono λj v e=>lk e (bu.2 λq=>nomatch(q▸hf).symm.trans e))) λH3 l3 e3 Fs=>?_
  refine⟨H3,l3,aR (x:=ah k z.1 ⟨H,loc⟩) rfl (aR (x:=dp _) rfl (aR (x:=aK de (.list acc) _) (a:=(.list (acc++[z.2]),⟨H2,loc.set k (some z.1)⟩)) (D0 (show acc.length<16777216 by exact Wl hn) (gH e2)) (e3.trans ?_))),Fs⟩
  rw[eV];rfl
theorem Ev.zI {di:DI} {js:List (Option Nat)} {de:D} {k:Nat} (zs:List (V×V)) (hi:mI n K L di (zs.map (·.1))) (hn:zs.length<=16777216) (hk:k<js.length) (hf:(jL js L).lookup k=none) (hb:∀z∈zs,Ev js.length K ((k,z.1)::jL js L) de z.2):Ev n K L (fS (a9 di js (ah k) dp (aK de) (.list []))) (.lst (zs.map (·.2))):=λH loc hh hl=>
 (hi H loc hh hl).elim λH₁ w=>(xy hk hf zs [] hb ((cc _).symm▸hn) H₁ (qk js loc) w.2 (zw hl)).imp λbT cX=>cX.elim λg_ cX=>⟨(ak (Option.map _) (aR w.1 (ak (Option.map _) cX.1))).trans rfl,cX.2⟩
noncomputable def kv1 (p:Int×Int):V:=.tup [.int p.1,.int p.2]
def apP (x y:M) (v:V):Bool:=(sO v).elim false λq=>!(atC x q.1==atC y q.1)
def apG (x y:M) (v:V):V:=(sO v).elim .none λq=>.int (if atC y q.1<atC x q.1 then q.2 else-q.2)
def Nn (ks:Ky) (x y:M):aq:=((ks.map kv1).filter (apP x y)).map (apG x y)
theorem aay (x y:M):∀ks:Ky,(Nn ks x y++[.int 0])[0]?=some (.int (fg ks x y)):=by
 intro xx
 induction xx with
 |nil=>
  exact rfl
 |cons p r ih=>
  have ih:=ih
  have ep:apP x y (kv1 p)=!(atC x p.1==atC y p.1):=rfl
  have eg:apG x y (kv1 p)= .int (if atC y p.1<atC x p.1 then p.2 else-p.2):=rfl
  simp only[fg,u4,iB]at ih |-
  unfold Nn at ih |-
  rw[bo]
  rcases Int.lt_trichotomy (atC x p.1) (atC y p.1)with h|h|h
  ·rw[my (by rw[ep,bu.2 (Int.ne_of_lt h)];rfl),bo,eg,af (by exact Y94 h),ag h];rfl
  ·rw[q8 (by rw[ep,h,beq_self_eq_true];decide),af (by exact Y95 h),af (by exact Y96 h)];exact ih
  ·rw[my (by rw[ep,bu.2 (Int.ne_of_gt h)];rfl),bo,eg,ag h,af (by exact Y94 h),ag h];rfl
theorem MW (ks:Ky) (x y:M):(Nn ks x y).length<=ks.length:=by
 unfold Nn
 rw[aD]
 exact aA (List.length_filter_le _ _) (by rw[aD];exact aF _)
theorem JF {ks:Ky} (o:jX ks) {x y:M} {a b:V} (ha:iQ a x) (hb:iQ b y) (h1:L.lookup 1=some (rx ks)) (h8:L.lookup 8=some a) (h9:L.lookup 9=some b):Ev n K L (fS GD) (.lst (Nn ks x y)):=by
 have j:jL [none,none,none,some 8,some 9] L=[(3,a),(4,b)]:=by simp[jL,List.zipIdx,h8,h9]
 refine Ev.comp (apP x y) (apG x y) (.iter (x:=rx ks) (.var h1) rfl) (by rw[aD];have :=o.le;exact ac1 this) λv hv=>?_
 obtain⟨p,hp,rfl⟩:=aY.1 hv
 have c:=o.c p hp
 rw[j]
 refine⟨_,Tg.two (by decide) (by decide),λk hk=>?_,.cmp (x:=.int (atC x p.1)) (y:=.int (atC y p.1)) (.idx (.var rfl) (.var rfl) λH U=>ha.at c.1 c.2.1 H) (.idx (.var rfl) (.var rfl) λH U=>hb.at c.1 c.2.1 H) λH U=>zN tO,λU=>.ite (c:=decide (atC y p.1<atC x p.1)) (.cmp (.idx (.var rfl) (.var rfl) λH U=>ha.at c.1 c.2.1 H) (.idx (.var rfl) (.var rfl) λH U=>hb.at c.1 c.2.1 H) λH U=>tR) (λh=>?_) λh=>?_⟩
 ·match k with
  |1|2=>rfl
  |0=>cases hk
  |k+3=>cases hk
 ·show Ev _ K _ (aa 2) (.int (if atC y p.1<atC x p.1 then p.2 else-p.2))
  rw[ag (of_decide_eq_true h)];exact .var rfl
 ·show Ev _ K _ (lN (aa 2)) (.int (if atC y p.1<atC x p.1 then p.2 else-p.2))
  rw[af (of_decide_eq_false h)];exact .neg (.var rfl)
theorem Ao (m:M):cnt (word m)=m:=by
 unfold cnt word
 simp only[List.count_append,List.count_replicate]
 exact pK (by simp) (by simp) (by simp)
theorem qC {x y:M} (h:word x=word y):x=y:=by rw[<-Ao x,<-Ao y,h]
theorem Ew (x y:M):Fn K a8 [.str (word x),.str (word y)] (.bool (decide (x=y))):=by
 have :=Al (K:=K) (word x) (word y) (mS (qG x)).1 (mS (qG x)).2 (mS (qG y)).2
 have e:(word x==word y)=decide (x=y):=by
  rw[iu,beq_iff_eq,kT]
  exact⟨qC,λh=>h▸rfl⟩
 rw[e]at this
 exact this
def WL (p:M×M) (v:V):Prop:=∃k1 c1 k2 c2,v= .lst [ent p.1 k1 c1,ent p.2 k2 c2]/\eN 10 c1/\eN 10 c2
def Bc:eY->aq->Prop
 |[],vs=>vs=[]
 |p::ps,vs=>∃v r,vs=v::r/\WL p v/\Bc ps r
theorem Bc.snoc {p:M×M} {v:V} (h:WL p v):∀{ps:eY} {vs:aq},Bc ps vs->Bc (ps++[p]) (vs++[v]):=by
 intro xx
 induction xx with
 |nil=>
  intro _ e
  cases e;exact⟨v,[],rfl,h,rfl⟩
 |cons q ps ih=>
  intro _ ⟨u,r,e,hu,hr⟩
  subst e;exact⟨u,r++[v],rfl,hu,ih hr⟩
theorem Bc.len:∀{ps:eY} {vs:aq},Bc ps vs->vs.length=ps.length:=by
 intro xx
 induction xx with
 |nil=>
  intro _ e
  cases e;rfl
 |cons _ _ ih=>
  intro _ ⟨_,_,e,_,hr⟩
  subst e;exact ak Nat.succ (ih hr)
def mF (wt:eY) (o:bJ):Prop:=∃vs,o= .list vs/\Bc wt vs
end
section
variable{n:Nat} {K K':HK} {L L':aE}
theorem Q0:eZ 0 3 1=[.int 0,.int 1,.int 2]:=by kernel_rfl
theorem mI.r3:mI n K L (cZ (ae (dC (.int 3)) az)) [.int 0,.int 1,.int 2]:=Q0▸mI.range (i:=0) (j:=3) (k:=1) (.and .con .no) rfl (by kernel_rfl)
theorem in3 {x:V} (h:x∈[V.int 0,.int 1,.int 2]):∃i:Int,x= .int i/\0<=i/\i<=2:=by
 simp only[aC,bh,or_false]at h
 rcases h with rfl|rfl|rfl
 ·exact⟨0,rfl,by decide,by decide⟩
 ·exact⟨1,rfl,by decide,by decide⟩
 ·exact⟨2,rfl,by decide,by decide⟩
theorem vf (a b:Nat):(if(b:Int)>a then(b:Int)else a)=((max a b:Nat):Int):=by
 by_cases h:a<b
 ·rw[ag (by exact Wj h),Nat.max_eq_right (by exact Wh h)]
 ·rw[af (by exact Y97 h),Nat.max_eq_left (by exact Wn h)]
theorem MR {a b:V} {l g:M} (ha:iQ a g) (hb:iQ b l) (rD:L.lookup 12=some a) (h16:L.lookup 16=some b):Ev n K L (a5 zC (ae (fS GG) az)) (lc l g).v:=by
 have j:jL [none,none,none,some 12,some 16] L=[(3,a),(4,b)]:=by simp[jL,List.zipIdx,rD,h16]
 have c:Ev n K L (fS GG) _:=Ev.C4 (λv=>.int (if atC g (JJ v)>atC l (JJ v)then atC g (JJ v)else atC l (JJ v))) mI.r3 (ay rfl) (by decide) (by rw[j];rfl) λx hx=>by
  obtain⟨i,rfl,h1,h2⟩:=in3 hx
  rw[j]
  exact .call (.and (.idx (.var rfl) (.var rfl) λH U=>hb.at h1 h2 H) (.and (.idx (.var rfl) (.var rfl) λH U=>ha.at h1 h2 H) .no)) λH U=>rfl
 refine .call (.and c .no) λH U=>?_
 show some (V.tup [.int _,.int _,.int _])=some (.tup [.int _,.int _,.int _])
 rw[show(lc l g).1=max l.1 g.1 from rfl,show(lc l g).2.1=max l.2.1 g.2.1 from rfl,show(lc l g).2.2=max l.2.2 g.2.2 from rfl,<-vf,<-vf,<-vf];rfl
theorem rR {m:M} {k:Nat} (h:L.lookup k=some m.v):Ev n K L (a5 g0 (ae (aa k) az)) (.int (dg m)):=.call (.and (.var h) .no) λH U=>by
 have e:wY H [m.v]=some (.int (dg m)):=by
  show some (V.int ((m.1:Int)+((m.2.1:Int)+((m.2.2:Int)+0))))=_
  congr 2;unfold dg;exact Y98
 show Option.or (A8 H [m.v]) (wY H [m.v])=_
 rw[e];rfl
theorem yC {m:M} {k:Nat} (h:L.lookup k=some m.v):Ev n K L (aB addW (aa k) (bb (ae (a5 g0 (ae (aa k) az)) (ae lj az)))) (ent m (dg m) []):=
 .bin (.var h) (.tup (.and (rR h) (.and .Kx .no)) (ay rfl)) (by kernel_rfl)
theorem eN.nil:eN 0 []:=⟨gy,nofun,aF _⟩
theorem eN.one {w:ar} (h:w.length<=100):eN 10 (eE [] w 1):=(eN.nil.add h 1).mono (by decide)
theorem E_ {x:k5} (hx:iW x) {ν:Rl} (hd:dg ν.1<=100) {kg:Int} {cg:Cl} {top:Nat} {wt:eY} (hb:wt.length<=100000) {mw:Nat} (hn:∀p∈K,p.1≠mw) (h0:L.lookup 0=some (.ref mw)) (h2:L.lookup 2=some (.int top)) (rD:L.lookup 12=some (ent ν.1 kg cg)) (Vf:L.lookup 14=some (dq ν)) (fr:∀j,15<=j->L.lookup j=none):
  SK 31 ((mw,mF wt)::K) ([(17,dq x.1),(16,x.1.1.v),(15,.str (want x.1.1 x.2))]++L) wO ((mw,mF (wt++jm top [x.1] ν))::K) L:=by
 have UL:=dH.1 hx.l
 have up:∀{a b c d w:V} {k:Nat},L.lookup k=some w->((18,a)::([(17,b),(16,c),(15,d)]++L):aE).lookup k=some w:=λ{a b c d w k} h=>by
  have k15:k<15:=Nat.lt_of_not_le λz=>nomatch(fr k z).symm.trans h
  have ne:∀{j:Nat},15<=j->(k==j)=false:=λh2=>bu.2 (by exact Y99 h2 k15)
  exact lk (lk (lk (lk h (ne (by decide))) (ne (by decide))) (ne (by decide))) (ne (by decide))
 have OA:∀{b c d w:V} {k:Nat},L.lookup k=some w->([(17,b),(16,c),(15,d)]++L:aE).lookup k=some w:=λ{b c d w k} h=>by
  have k15:k<15:=Nat.lt_of_not_le λz=>nomatch(fr k z).symm.trans h
  have ne:∀{j:Nat},15<=j->(k==j)=false:=λh2=>bu.2 (by exact Y99 h2 k15)
  exact lk (lk (lk h (ne (by decide))) (ne (by decide))) (ne (by decide))
 refine SK.seq (Sn.fH (by decide) (MR (iQ.ent ν.1 kg cg) (iQ.v x.1.1) (OA rD) rfl)).k ?_
 refine SK.mono (SK.seq (L':=(18,(lc x.1.1 ν.1).v)::([(17,dq x.1),(16,x.1.1.v),(15,.str (want x.1.1 x.2))]++L)) ?_ Sn.fin.k) λj v e=>up e
 refine SK.ite (c:=Nat.ble (dg (lc x.1.1 ν.1)) top) (.cmp (x:=.int (dg (lc x.1.1 ν.1))) (y:=.int top) (rR rfl) (.var (up h2)) λH U=>?_) (λh=>?_) λh=>?_
 ·show some (decide ((dg (lc x.1.1 ν.1):Int)<=top))=_
  congr 1;rw[iu,kT,fN];exact aeE
 ·have e:jm top [x.1] ν=[DY x.1 ν]:=by simp[jm,h]
  rw[e]
  refine SK.seq (SK.ex λob ⟨vs,e,hw⟩=>?_) Sn.fin.k
  subst e
  have hl:=hw.len
  have c:Ev 31 ((mw,Is (.list vs))::K) ((18,(lc x.1.1 ν.1).v)::([(17,dq x.1),(16,x.1.1.v),(15,.str (want x.1.1 x.2))]++L)) (fS Oi) _:=Ev.zI [(dq x.1,ent (ap x.1 (lc x.1.1 ν.1)) (dg (lc x.1.1 ν.1)) (eE [] (word x.1.1) 1)),(dq ν,ent (ap ν (lc x.1.1 ν.1)) (dg (lc x.1.1 ν.1)) (eE [] (word ν.1) 1))]
   (.iter (x:=.tup [dq x.1,dq ν]) (.tup (.and (.var rfl) (.and (.var (up Vf)) .no)) (ay rfl)) rfl) (ay rfl) (by decide) rfl λz hz=>by
    simp only[aC,bh,or_false]at hz
    rcases hz with rfl|rfl
    ·exact .cM (.and (yC rfl) (.and (.var rfl) .no)) (vK eN.nil (by decide) (by exact FG UL.2) (Pj _ _) _)
    ·exact .cM (.and (yC rfl) (.and (.var rfl) .no)) (vK eN.nil (by decide) hd (Ph _ _) _)
  refine SK.wk (SK.append (.var (up h0)) c (by exact aeD hl hb) hn) λH h=>h.JI λo e=>⟨_,e,hw.snoc ⟨_,_,_,_,rfl,eN.one (by rw[d7];exact FG UL.2),eN.one (by rw[d7];exact hd)⟩⟩
 ·have e:jm top [x.1] ν=[]:=by simp[jm,h]
  rw[e,eh]
  exact Sn.fin.k
theorem Jx (top:Nat) (R S:List Rl) (ν:Rl):jm top (R++S) ν=jm top R ν++jm top S ν:=by simp[jm]
theorem Am (top:Nat) (R:List Rl) (ν:Rl):(jm top R ν).length<=R.length:=by unfold jm;rw[aD];exact List.length_filter_le _ _
theorem Fb {ν:Rl} (hd:dg ν.1<=100) {kg:Int} {cg:Cl} {top:Nat} {wt:eY} (hb:wt.length<=10000) {mw mr:Nat} {rl:List k5} (ok:∀x∈rl,iW x) (hr:rl.length<=900) (hn:∀p∈(mr,Is (.list (rl.map rv)))::K,p.1≠mw) (h0:L.lookup 0=some (.ref mw)) (h2:L.lookup 2=some (.int top)) (rD:L.lookup 12=some (ent ν.1 kg cg)) (Vf:L.lookup 14=some (dq ν)) (fr:∀j,15<=j->L.lookup j=none):∀(f j i:Nat),i+j=rl.length->j<f->∀H loc,bP ((mw,mF (wt++jm top ((rl.take i).map (·.1)) ν))::(mr,Is (.list (rl.map rv)))::K) H->Loc 31 L loc->
  ∃H' a6,r7 mr (bx (ao (ah 15) (ao (ah 16) (ao (ah 17) bf)))) wO f i ⟨H,loc⟩=some (.next,⟨H',a6⟩)/\bP ((mw,mF (wt++jm top (rl.map (·.1)) ν))::(mr,Is (.list (rl.map rv)))::K) H'/\Loc 31 L a6:=by
 intro f
 induction f with
 |zero=>exact λU U U h=>nomatch h
 |succ f ih=>
 intro j i hi hf H loc hh hl
 cases j with
 |zero=>
  rw[dR (by exact WJ hi)]at hh
  exact⟨H,loc,aR (x:=dE H mr) (gK (hh.is (.tail _ (.head _)))) (by rw[oJ (by rw[aD];exact WJ hi)];rfl),hh,hl⟩
 |succ j=>
  have hx:rl[i]?=some (rl[i]'(by exact PO hi)):=bZ (by exact PO hi)
  generalize rl[i]'(by exact PO hi)=x at hx
  refine x3 ((Tg.tup (.cons (.var (by decide)) (.cons (.var (by decide)) (.cons (.var (by decide)) .nil))):Tg 31 (bx (ao (ah 15) (ao (ah 16) (ao (ah 17) bf)))) (rv x) _) H loc _ hl) λl1 e1 pN=>?_
  have cl:=Am top ((rl.take i).map (·.1)) ν
  rw[aD,i_]at cl
  refine x5 (E_ (K:=(mr,Is (.list (rl.map rv)))::K) (ok x (bI hx)) hd (kg:=kg) (cg:=cg) (top:=top) (wt:=wt++jm top ((rl.take i).map (·.1)) ν) (by rw[bH];exact aeC hb hr cl) hn h0 h2 rD Vf fr H l1 hh pN) λH2 l2 e2 tG nB=>?_
  have e3:wt++jm top ((rl.take i).map (·.1)) ν++jm top [x.1] ν=wt++jm top ((rl.take (i+1)).map (·.1)) ν:=by
   rw[take_succ_get hx,cF,Jx,eV];rfl
  rw[e3]at tG
  refine x4 (ih j (i+1) (by exact aeB hi) (by exact Z16 hf) H2 l2 tG nB) λH3 l3 e4 w=>?_
  exact⟨H3,l3,aR (x:=dE H mr) (gK (hh.is (.tail _ (.head _)))) (by rw[aQ,hx];exact aR (k:=λst₁=>(wO st₁).bind _) e1 (aR e2 e4)),w⟩
end
section
variable{n:Nat} {K K':HK} {L L':aE}
theorem Fn.pm {K1:HK} {f:aj->aq->Option (V×aj)} {vs:aq} {v:V} (h:Fn K f vs v) (a:∀p,p∈K↔p∈K1):Fn K1 f vs v:=λH hh=>(h H (bP.sub (λp hp=>(a p).mp hp) H hh)).imp λH' w=>⟨w.1,bP.sub (λp hp=>(a p).mpr hp) H' w.2⟩
theorem SK.pm {K1 K2:HK} {d:DS} (h:SK n K L d K' L') (a:∀p,p∈K↔p∈K1) (b:∀p,p∈K'↔p∈K2):SK n K1 L d K2 L':=(h.pre λH hh=>bP.sub (λp hp=>(a p).mp hp) H hh).wk λH hh=>bP.sub (λp hp=>(b p).mpr hp) H hh
section
variable{α:Type} {a b c d:α} {l:List α}
theorem pU (p:α):p∈b::a::l↔p∈a::b::l:=by simp only[aC];exact or_left_comm
theorem R2 (p:α):p∈c::a::b::l↔p∈a::b::c::l:=by
 simp only[aC];rw[or_left_comm,or_left_comm (a:=p=c)]
theorem R1 (p:α):p∈d::a::b::c::l↔p∈a::b::c::d::l:=by
 simp only[aC];rw[or_left_comm,or_left_comm (a:=p=d),or_left_comm (a:=p=d)]
end
structure UT (K:HK) (mw mr mo ma:Nat):Prop where
 wr:mw≠mr
 wo:mw≠mo
 wa:mw≠ma
 ro:mr≠mo
 ra:mr≠ma
 oa:mo≠ma
 k:∀p∈K,p.1≠mw/\p.1≠mr/\p.1≠mo/\p.1≠ma
noncomputable def KB (mw mr mo ma:Nat) (wt:eY) (rl:List k5) (K:HK):HK:=(mw,mF wt)::(mr,Is (.list (rl.map rv)))::(mo,Is (.list []))::(ma,eO)::K
def rL (ks:Ky) (top pick mw mr mo ma:Nat):aE:=[(7,.cmp (rx ks)),(6,.ref mr),(5,.ref ma),(4,.ref mo),(3,.int pick),(2,.int top),(1,rx ks),(0,.ref mw)]
variable{mw mr mo ma:Nat} {ks:Ky} {top pick:Nat}
def lC (pick:Nat) (rl:List k5):List Rl:=(yX (pick %(rl.length+1)) rl).map (·.1)
theorem Lw (A:UT K mw mr mo ma) {p:M×M} {wt:eY} {rl:List k5} (ok:∀x∈rl,iW x) (hr:rl.length<=900) (h1:p.1∈lL) (h2:p.2∈lL) (H:aj) (loc:c8) (hh:bP (KB mw mr mo ma (p::wt) rl K) H) (hl:Loc 31 (rL ks top pick mw mr mo ma) loc):
  ∃k1 c1 k2 c2 H',C7 ⟨H,loc⟩=some (.list [ent (dn (lC pick rl) p.1) k1 c1,ent (dn (lC pick rl) p.2) k2 c2],⟨H',loc⟩)/\bP (KB mw mr mo ma wt rl K) H':=by
 obtain⟨ob,⟨vs,e,hw⟩,hx⟩:=hh.ex
 subst e
 obtain⟨v,r,e,⟨k1,c1,k2,c2,ev,o1,o2⟩,hr'⟩:=hw
 subst e;subst ev
 have hm:=hx.at
 have hx2:bP (KB mw mr mo ma wt rl K) (H.set mw (some (.list r))):=hx.drop.upd mw (.list r) (mF wt) ⟨r,rfl,hr'⟩ (bO.1 hm).1 λp hp=>by
  simp only[aC]at hp
  rcases hp with rfl|rfl|rfl|hp
  ·exact A.wr.symm
  ·exact A.wo.symm
  ·exact A.wa.symm
  ·exact(A.k p hp).1
 have l0:=hl.2 0 _ rfl
 have e0:aa 0 ⟨H,loc⟩=some (.ref mw,⟨H,loc⟩):=gH (ak Option.join l0)
 have e1:cI (bC ry D_ (aa 0) (ae (dC (.int 0)) az)) ⟨H,loc⟩=some ([ent p.1 k1 c1,ent p.2 k2 c2],⟨H.set mw (some (.list r)),loc⟩):=by
  refine aR (x:=bC ry D_ (aa 0) (ae (dC (.int 0)) az) ⟨H,loc⟩) (a:=(.lst [ent p.1 k1 c1,ent p.2 k2 c2],⟨H.set mw (some (.list r)),loc⟩)) (aR e0 (D0 (show ry H (.ref mw)=true from ak Option.isSome (e_ hm)) (aR (x:=ae (dC (.int 0)) az ⟨H,loc⟩) rfl (gH (x:=D_ H (.ref mw) [.int 0]) (a:=(.lst [ent p.1 k1 c1,ent p.2 k2 c2],H.set mw (some (.list r)))) ?_)))) rfl
  exact aR (x:=dE H mw) (gK hm) rfl
 have j:jL [none,none,none,some 5,some 4,some 3,some 6] (rL ks top pick mw mr mo ma)=[(3,.ref ma),(4,.ref mo),(5,.int pick),(6,.ref mr)]:=rfl
 have dw:∀{m:M} {k:Int} {c:Cl},m∈lL->eN 10 c->Fn (KB mw mr mo ma wt rl K) gv [ent m k c,.ref mr,.int pick,.ref mo,.ref ma] (ent (dn (lC pick rl) m) k (D4 c (te (lC pick rl) 15 m))):=λhm hc=>
  (DJ (K:=(mw,mF wt)::(mr,Is (.list (rl.map rv)))::(mo,Is (.list []))::K) (λp hp=>by
   simp only[aC]at hp
   rcases hp with rfl|rfl|rfl|hp
   ·exact A.wa
   ·exact A.ra
   ·exact A.oa
   ·exact(A.k p hp).2.2.2) hm hc (by decide) (rQ.r (.tail _ (.head _))) ok (by exact aeA hr) pick (.ref mo)).pm R1
 refine x4 (xy (K:=KB mw mr mo ma wt rl K) (m:=7) (Lc:=[(3,.ref ma),(4,.ref mo),(5,.int pick),(6,.ref mr)]) (de:=N7) (k:=1) (by decide) rfl [(ent p.1 k1 c1,ent (dn (lC pick rl) p.1) k1 (D4 c1 (te (lC pick rl) 15 p.1))),(ent p.2 k2 c2,ent (dn (lC pick rl) p.2) k2 (D4 c2 (te (lC pick rl) 15 p.2)))] [] (λz hz=>by
  simp only[aC,bh,or_false]at hz
  rcases hz with rfl|rfl
  ·exact .cM (.and (.var rfl) (.and (.var rfl) (.and (.var rfl) (.and (.var rfl) (.and (.var rfl) .no))))) (dw h1 o1)
  ·exact .cM (.and (.var rfl) (.and (.var rfl) (.and (.var rfl) (.and (.var rfl) (.and (.var rfl) .no))))) (dw h2 o2)) (ay rfl) _ _ hx2 (j▸zw (js:=[none,none,none,some 5,some 4,some 3,some 6]) hl)) λH2 l2 e2 tG=>?_
 exact⟨_,_,_,_,H2,aR e1 ((ak (Option.map _) e2).trans rfl),tG⟩
theorem B2 (ks:Ky):xT (ks.map λp=>.tup [.int p.1,.int p.2])=some ks:=by
 induction ks with
 |nil=>rfl
 |cons p r ih=>exact aR (x:=sO (.tup [.int p.1,.int p.2])) rfl (gH ih)
theorem MJ (o:jX ks) (h1:L.lookup 1=some (rx ks)):Ev n K L (a5 r5 (ae (aa 1) az)) (.AP ks):=.call (.and (.var h1) .no) λH U=>
 aR (x:=lQ [rx ks]) rfl<|aR (x:=xI (rx ks)) rfl (aR (B2 ks) (ag ⟨o.nd,by have :=o.le;exact acu this⟩))
def nL (ks:Ky) (top pick mw mr mo ma:Nat) (ν:Rl) (kg kl:Int) (cg cl:Cl):aE:=[(14,dq ν),(13,ent ν.2 kl cl),(12,ent ν.1 kg cg)]++rL ks top pick mw mr mo ma
theorem abw {ν:Rl} {kg kl:Int} {cg cl:Cl}:∀j v,(rL ks top pick mw mr mo ma).lookup j=some v->(nL ks top pick mw mr mo ma ν kg kl cg cl).lookup j=some v:=Ha (.c rfl (.c rfl (.c rfl (.c rfl (.c rfl (.c rfl (.c rfl (.c rfl .n))))))))
def blk:DS:=ax (zG (aa 6) (bx (ao (ah 15) (ao (ah 16) (ao (ah 17) bf)))) wO)
 (ax (fU (bC ry fX (aa 6) (ae (bb (ae (aN gu (ae (aa 12) (ae (aB fw (aB addW (aa 3) (a5 iN (ae (aa 6) az))) (dC (.int 3))) az))) (ae (cS (aa 12) ti (dP (dC (.int 3)))) (ae (aa 14) az)))) az)))
 (ax (fU (aN g9 (ae (aa 12) (ae (a5 r5 (ae (aa 1) az)) (ae (aa 7) (ae (aa 4) az))))))
 aT))
def d_:=@Nat.mod_lt
theorem Ub (A:UT K mw mr mo ma) (o:jX ks) {ν:Rl} (hg:ν.1∈lL) {kg kl:Int} {cg cl:Cl} {wt:eY} (hb:wt.length<=10000) {rl:List k5} (ok:∀x∈rl,iW x) (hr:rl.length<=900):
  SK 31 (KB mw mr mo ma wt rl K) (nL ks top pick mw mr mo ma ν kg kl cg cl) blk (KB mw mr mo ma (wt++jm top (rl.map (·.1)) ν) (rl++[(ν,(pick+rl.length) %3)]) K) (nL ks top pick mw mr mo ma ν kg kl cg cl):=λH loc hh hl=>by
 have d:=dH.1 hg
 have s3':=d_ (pick+rl.length) (show 0<3 by decide)
 refine x5 (Fb (K:=(mo,Is (.list []))::(ma,eO)::K) (L:=nL ks top pick mw mr mo ma ν kg kl cg cl) (ν:=ν) (by exact FG d.2) (kg:=kg) (cg:=cg) (top:=top) (wt:=wt) hb (mw:=mw) (mr:=mr) ok hr (λp hp=>by
  simp only[aC]at hp
  rcases hp with rfl|rfl|rfl|hp
  ·exact A.wr.symm
  ·exact A.wo.symm
  ·exact A.wa.symm
  ·exact(A.k p hp).1) rfl rfl rfl rfl (NK rfl) 1000 rl.length 0 (cc _) (by exact aez hr) H loc (by rw[List.take_zero];show bP ((mw,mF (wt++[]))::_) H;rw[eh];exact hh) hl) λH1 l1 e1 M' pN=>?_
 have a1:zG (aa 6) (bx (ao (ah 15) (ao (ah 16) (ao (ah 17) bf)))) wO ⟨H,loc⟩=some (.next,⟨H1,l1⟩):=aR (x:=aa 6 ⟨H,loc⟩) (gH (ak Option.join (hl.2 6 _ rfl))) (aR (x:=asR (.ref mr)) rfl e1)
 have b4:SK 31 (KB mw mr mo ma (wt++jm top (rl.map (·.1)) ν) rl K) (nL ks top pick mw mr mo ma ν kg kl cg cl) (fU (bC ry fX (aa 6) (ae (bb (ae (aN gu (ae (aa 12) (ae (aB fw (aB addW (aa 3) (a5 iN (ae (aa 6) az))) (dC (.int 3))) az))) (ae (cS (aa 12) ti (dP (dC (.int 3)))) (ae (aa 14) az)))) az))) (KB mw mr mo ma (wt++jm top (rl.map (·.1)) ν) (rl++[(ν,(pick+rl.length) %3)]) K) (nL ks top pick mw mr mo ma ν kg kl cg cl):=
  SK.pm (SK.append (K:=(mw,mF (wt++jm top (rl.map (·.1)) ν))::(mo,Is (.list []))::(ma,eO)::K) (m:=mr) (l:=rl.map rv) (v:=rv (ν,(pick+rl.length) %3)) (.var rfl) (.tup (.and (.cM (.and (.var rfl) (.and (.bin (x:=.int ((pick+rl.length:Nat):Int)) (y:=.int 3) (.bin (x:=.int pick) (y:=.int rl.length) (.var rfl) (.call (.and (.var rfl) .no) λH h=>by rw[rZ,(rQ.r (.head _)).ln H h];rfl) rfl) .con (eG _ 3 (by decide))) .no)) (KV hg s3' kg cg)) (.and (.slice (i:=none) (j:=some 3) (.var rfl) .p0 (.p .con) λH U=>(by kernel_rfl:kr H (ent ν.1 kg cg) none (some 3)=some ν.1.v)) (.and (.var rfl) .no))) (ay rfl)) (by rw[aD];exact aey hr) λp hp=>by
   simp only[aC]at hp
   rcases hp with rfl|rfl|rfl|hp
   ·exact A.wr
   ·exact A.ro.symm
   ·exact A.ra.symm
   ·exact(A.k p hp).2.1) pU λp=>by unfold KB;rw[cF];exact pU p
 refine x5 (b4 H1 l1 M' pN) λH2 l2 e2 tG nB=>?_
 have b5:SK 31 (KB mw mr mo ma (wt++jm top (rl.map (·.1)) ν) (rl++[(ν,(pick+rl.length) %3)]) K) (nL ks top pick mw mr mo ma ν kg kl cg cl) (fU (aN g9 (ae (aa 12) (ae (a5 r5 (ae (aa 1) az)) (ae (aa 7) (ae (aa 4) az)))))) _ _:=
  (Sn.expr (.cM (.and (.var rfl) (.and (MJ o rfl) (.and (.var rfl) (.and (.var rfl) .no)))) ((Mj (K:=(mw,mF (wt++jm top (rl.map (·.1)) ν))::(mr,Is (.list ((rl++[(ν,(pick+rl.length) %3)]).map rv)))::(ma,eO)::K) hg o (λp hp=>by
   simp only[aC]at hp
   rcases hp with rfl|rfl|rfl|hp
   ·exact A.wo
   ·exact A.ro
   ·exact A.oa.symm
   ·exact(A.k p hp).2.2.1)).pm R2))).k
 refine x5 (b5 H2 l2 tG nB) λH3 l3 e3 Fs wi=>?_
 exact⟨H3,l3,aR a1 (aR e2 (aR e3 rfl)),Fs,wi⟩
end
section
variable{n:Nat} {K K':HK} {L L':aE} {mw mr mo ma:Nat} {ks:Ky} {top pick:Nat}
theorem uO (pick:Nat) (rl:List k5) (ρ:Rl):ρ∈lC pick rl↔ρ∈rl.map (·.1):=by
 unfold lC yX
 rw[cF,bF,Or.comm,<-bF,<-cF,mZ]
def aL (ks:Ky) (top pick mw mr mo ma:Nat) (x y:M) (a b:V):aE:=(11,.lst (Nn ks x y))::(10,.int (fg ks x y))::(9,b)::(8,a)::rL ks top pick mw mr mo ma
def Nu:DT:=iV (aS mG (aa 10) (aH (jr lG (aa 11) (eL (ae (dC (.int 0)) az))) (dC (.int 0)))) (iV (nF (OV isBool (aa 10))) (iV (aS fy (aN a8 (ae (aN aU (ae (aa 8) az)) (ae (aN aU (ae (aa 9) az)) az))) (mM eqZ (aa 10) (dC (.int 0)))) tm))
def newD:DS:=ax (j9 (aS mG (aa 10) (dC (.int 0))) (ax (ba (bx (ao (ah 12) (ao (ah 13) bf))) (lO (aS xH (aa 10) (dC (.int 0))) (bb (ae (aa 8) (ae (aa 9) az))) (bb (ae (aa 9) (ae (aa 8) az)))))
 (ax (ba (ah 14) (bb (ae (aB gI (aH (aa 13) (dC (.int 0))) (aH (aa 12) (dC (.int 0)))) (ae (aB gI (aH (aa 13) (dC (.int 1))) (aH (aa 12) (dC (.int 1)))) (ae (aB gI (aH (aa 13) (dC (.int 2))) (aH (aa 12) (dC (.int 2)))) (ae (dC (.int 0)) (ae (nU (mL (aN aU (ae (aa 12) az)) (dC (.int 1)) uq)) az))))))) blk)) aT) aT
def V4:DS:=ax (j9 Nu (ax (fU (bC ry fX (aa 4) (ae (aa 10) az))) aT) newD) aT
theorem Aq {H:aj} {a b:aq} (h:a.length+b.length<=16777216):lG H (.lst a) (.lst b)=some (a++b):=aR (x:=b8 H (.lst a)) rfl (aR (x:=b8 H (.lst b)) rfl (ag h))
theorem K8 {x y:M} {a b:V} (o:jX ks) (hd:dg x=dg y) (h4:dg x<=4) (ha:iQ a x) (hb:iQ b y):j_ 31 K (aL ks top pick mw mr mo ma x y a b) Nu false:=by
 have al:=MW ks x y
 have l3:=o.le
 refine .or (c:=false) (.cmp (x:=.int (fg ks x y)) (y:=.int (fg ks x y)) (.var rfl) (.idx (x:=.lst (Nn ks x y++[.int 0])) (y:=.int 0) (.KD (x:=.lst (Nn ks x y)) (y:=.lst [.int 0]) (.var rfl) (.lst (.and .con .no) (ay rfl)) λH U=>Aq (by rw[eA];exact WH l3 al)) .con λH U=>yv (i:=0) (aay x y ks)) λH U=>zN IQ) λU=>.or (c:=false) (.Fm (x:=.bool false) (.is (.var rfl) λU=>rfl) λU=>rfl) λU=>.or (c:=false) (.cmp (x:=.bool (decide (x=y))) (y:=.bool (fg ks x y==0)) (.cM (.and (.cM (.and (.var rfl) .no) (fV ha (by exact FG h4))) (.and (.cM (.and (.var rfl) .no) (fV hb (by exact aex hd h4))) .no)) (Ew x y)) (.cmp (.var rfl) .con λH U=>zX yA) λH U=>?_) λU=>.or0
 have e:decide (x=y)=(fg ks x y==0):=by
  rw[iu,kT,beq_iff_eq]
  exact⟨λh=>h▸cmp_self ks x,λh=>BL o hd h⟩
 rw[e]
 simp only[qH,mi]
theorem Ld {g l:M} {a b:V} (ha:iQ a g) (hb:iQ b l) (hd:dg g<=100) (rD:L.lookup 12=some a) (OQ:L.lookup 13=some b):Ev n K L (bb (ae (aB gI (aH (aa 13) (dC (.int 0))) (aH (aa 12) (dC (.int 0)))) (ae (aB gI (aH (aa 13) (dC (.int 1))) (aH (aa 12) (dC (.int 1)))) (ae (aB gI (aH (aa 13) (dC (.int 2))) (aH (aa 12) (dC (.int 2)))) (ae (dC (.int 0)) (ae (nU (mL (aN aU (ae (aa 12) az)) (dC (.int 1)) uq)) az)))))) (dq (g,l)):=
 .tup (.and (.bin (.idx (.var OQ) .con λH U=>(hb H).1) (.idx (.var rD) .con λH U=>(ha H).1) rfl) (.and (.bin (.idx (.var OQ) .con λH U=>(hb H).2.1) (.idx (.var rD) .con λH U=>(ha H).2.1) rfl) (.and (.bin (.idx (.var OQ) .con λH U=>(hb H).2.2) (.idx (.var rD) .con λH U=>(ha H).2.2) rfl) (.and .con (.and (.F3 (.cons (.cM (.and (.var rD) .no) (fV ha hd)) .con .nil) (ay rfl)) .no))))) (ay rfl)
theorem aci {x y:M} {a b:V}:∀j v,(rL ks top pick mw mr mo ma).lookup j=some v->(aL ks top pick mw mr mo ma x y a b).lookup j=some v:=λj v e=>by
 match j with
 |0|1|2|3|4|5|6|7=>exact e
 |j+8=>cases e
theorem IP (A:UT K mw mr mo ma) (o:jX ks) {x y g l:M} {k1 k2 kg kl:Int} {c1 c2 cg cl:Cl} (AR:(0<fg ks x y/\g=x/\l=y/\kg=k1/\kl=k2/\cg=c1/\cl=c2)\/(fg ks x y<0/\g=y/\l=x/\kg=k2/\kl=k1/\cg=c2/\cl=c1)) (hg:g∈lL) {wt:eY} (hb:wt.length<=10000) {rl:List k5} (ok:∀x∈rl,iW x) (hr:rl.length<=900):
  SK 31 (KB mw mr mo ma wt rl K) (aL ks top pick mw mr mo ma x y (ent x k1 c1) (ent y k2 c2)) newD (KB mw mr mo ma (wt++jm top (rl.map (·.1)) (g,l)) (rl++[((g,l),(pick+rl.length) %3)]) K) (rL ks top pick mw mr mo ma):=by
 have d:=dH.1 hg
 have ne:fg ks x y≠0:=by rcases AR with h|h<;>omega
 have t:Ev 31 (KB mw mr mo ma wt rl K) (aL ks top pick mw mr mo ma x y (ent x k1 c1) (ent y k2 c2)) (lO (aS xH (aa 10) (dC (.int 0))) (bb (ae (aa 8) (ae (aa 9) az))) (bb (ae (aa 9) (ae (aa 8) az)))) (.tup [ent g kg cg,ent l kl cl]):=by
  rcases AR with⟨h,rfl,rfl,rfl,rfl,rfl,rfl⟩|⟨h,rfl,rfl,rfl,rfl,rfl,rfl⟩
  ·exact .Pl (.cmp (x:=.int _) (y:=.int 0) (.var rfl) .con λH U=>tR.trans (ak some (decide_eq_true h))) (.tup (.and (.var rfl) (.and (.var rfl) .no)) (ay rfl))
  ·exact .zh (.cmp (x:=.int _) (y:=.int 0) (.var rfl) .con λH U=>tR.trans (ak some (decide_eq_false (by exact aew h)))) (.tup (.and (.var rfl) (.and (.var rfl) .no)) (ay rfl))
 refine SK.seq (SK.ite (c:=true) (.cmp (x:=.int (fg ks x y)) (y:=.int 0) (.var rfl) .con λH U=>(zN tO).trans (ak some (by rw[bu.2 ne];rfl))) (λU=>SK.seq (Sn.set t (Tg.two (by decide) (by decide))).k (SK.seq (Sn.fH (by decide) (Ld (iQ.ent g kg cg) (iQ.ent l kl cl) (by exact FG d.2) rfl rfl)).k ?_)) nofun) Sn.fin.k
 refine λH loc hh hl=>?_
 refine x5 (Ub (top:=top) (pick:=pick) A o (ν:=(g,l)) hg (kg:=kg) (kl:=kl) (cg:=cg) (cl:=cl) hb ok hr H loc hh (hl.sub (.c rfl (.c rfl (.c rfl (.c rfl (.c rfl (.c rfl (.c rfl (.c rfl (.c rfl (.c rfl (.c rfl .n))))))))))))) λH' l' e h AX=>?_
 exact⟨H',l',e,h,AX.mono abw⟩
variable{F:M->M} {dr:eY}
theorem MT (A:UT K mw mr mo ma) (o:jX ks) (h4:top<=4) {p:M×M} {wt:eY} {rl:List k5} (c:Cm (Wt ks) F top dr (rl.map (·.1)) (p::wt)) (ok:∀x∈rl,iW x) (hb:wt.length<=10000) (H:aj) (loc:c8) (hh:bP (KB mw mr mo ma (p::wt) rl K) H) (hl:Loc 31 (rL ks top pick mw mr mo ma) loc):
  ∃J0 AV H' a6,zo ⟨H,loc⟩=some (.next,⟨H',a6⟩)/\bP (KB mw mr mo ma J0 AV K) H'/\Loc 31 (rL ks top pick mw mr mo ma) a6/\Cm (Wt ks) F top dr (AV.map (·.1)) J0/\(∀x∈AV,iW x)/\J0.length+32*(31-AV.length)<wt.length+1+32*(31-rl.length):=by
 have r31:rl.length<=31:=by have :=c.ct;rw[aD]at this;exact aev this
 obtain⟨pd,pt,pc⟩:=c.wd p (.head _)
 have nO:=BS ks
 have st:=λm=>uN (λρ h=>(uO pick rl ρ).mp h) 15 m
 have ir:=λ{m} h=>BI nO c.ru (uO pick rl) (m:=m) h
 obtain⟨k1,c1,k2,c2,H1,e1,M'⟩:=Lw A ok (by exact WG r31) (dH.2 ⟨pt.1,by exact Bb h4 pt.2⟩) (dH.2 (by rw[<-pd];exact⟨pt.1,by exact Bb h4 pt.2⟩)) H loc hh hl
 have s1:=st p.1
 have s2:=st p.2
 have i1:=ir (m:=p.1) (by exact Bb h4 pt.2)
 have i2:=ir (m:=p.2) (by exact aeu pd pt.2 h4)
 change Sr _ p.1 (dn (lC pick rl) p.1)at s1
 change Sr _ p.2 (dn (lC pick rl) p.2)at s2
 generalize dn (lC pick rl) p.1=x at e1 s1 i1
 generalize dn (lC pick rl) p.2=y at e1 s2 i2
 have dx:=(s1.low nO c.ru).1
 have dy:=(s2.low nO c.ru).1
 obtain⟨l1,et,pN⟩:=(JU.cons (.var (by decide)) (JU.cons (.var (by decide)) .nil):JU 31 (ao (ah 8) (ao (ah 9) bf)) [ent x k1 c1,ent y k2 c2] _) H1 loc _ hl
 have a1:ba (sT (ao (ah 8) (ao (ah 9) bf))) (fS C7) ⟨H,loc⟩=some (.next,⟨H1,l1⟩):=aR (x:=fS C7 ⟨H,loc⟩) (a:=(.lst [ent x k1 c1,ent y k2 c2],⟨H1,loc⟩)) ((ak (Option.map _) e1).trans rfl) (gH (x:=sT (ao (ah 8) (ao (ah 9) bf)) (.lst [ent x k1 c1,ent y k2 c2]) ⟨H1,loc⟩) (aR (x:=xI (.lst [ent x k1 c1,ent y k2 c2])) rfl et))
 have b2:Sn 31 (KB mw mr mo ma wt rl K) ([(9,ent y k2 c2),(8,ent x k1 c1)]++rL ks top pick mw mr mo ma) (ba (ah 10) (uJ bU (aa 7) (ae (aa 8) (ae (aa 9) az)))) _:=Sn.fH (by decide) (.fg (.var rfl) (.and (.var rfl) (.and (.var rfl) .no)) (BK o (iQ.ent x k1 c1) (iQ.ent y k2 c2)))
 obtain⟨H2,l2,e2,tG,nB⟩:=b2 H1 l1 M' pN
 have b3:Sn 31 (KB mw mr mo ma wt rl K) ((10,.int (fg ks x y))::([(9,ent y k2 c2),(8,ent x k1 c1)]++rL ks top pick mw mr mo ma)) (ba (ah 11) (fS GD)) (aL ks top pick mw mr mo ma x y (ent x k1 c1) (ent y k2 c2)):=Sn.fH (by decide) (JF o (iQ.ent x k1 c1) (iQ.ent y k2 c2) rfl rfl rfl)
 obtain⟨H3,l3,e3,Fs,wi⟩:=b3 H2 l2 tG nB
 have tl:=K8 (K:=KB mw mr mo ma wt rl K) (top:=top) (pick:=pick) (mw:=mw) (mr:=mr) (mo:=mo) (ma:=ma) o (by exact WE dx pd dy:dg x=dg y) (by exact WD dx pt.2 h4) (iQ.ent x k1 c1) (iQ.ent y k2 c2)
 by_cases q:x=y
 ·have b4:SK 31 (KB mw mr mo ma wt rl K) (aL ks top pick mw mr mo ma x y (ent x k1 c1) (ent y k2 c2)) V4 (KB mw mr mo ma wt rl K) (rL ks top pick mw mr mo ma):=SK.seq (SK.ite tl nofun λU=>SK.seq (SK.ite (c:=false) (.cmp (x:=.int (fg ks x y)) (y:=.int 0) (.var (by rfl)) .con λH U=>(zN tO).trans (by rw[q,cmp_self];rfl)) nofun λU=>Sn.fin.k) Sn.fin.k) (Sn.fin.mono aci).k
  obtain⟨H4,l4,e4,Kb,Cs⟩:=b4 H3 l3 Fs wi
  exact⟨wt,rl,H4,l4,aR a1 (aR e2 (aR e3 e4)),Kb,Cs,c.pop ⟨x,s1,q▸s2⟩,ok,by omega⟩
 ·have cs:=HB o (x:=x) (y:=y) (by exact WD dx pt.2 h4) (by exact aet pd pt.2 h4 dy)
  have ne:fg ks x y≠0:=λh=>q (BL o (by exact WE dx pd dy) h)
  have key:∀(g l:M) (kg kl:Int) (cg cl:Cl),((0<fg ks x y/\g=x/\l=y/\kg=k1/\kl=k2/\cg=c1/\cl=c2)\/(fg ks x y<0/\g=y/\l=x/\kg=k2/\kl=k1/\cg=c2/\cl=c1))->∃J0 AV H' a6,zo ⟨H,loc⟩=some (.next,⟨H',a6⟩)/\bP (KB mw mr mo ma J0 AV K) H'/\Loc 31 (rL ks top pick mw mr mo ma) a6/\Cm (Wt ks) F top dr (AV.map (·.1)) J0/\(∀x∈AV,iW x)/\J0.length+32*(31-AV.length)<wt.length+1+32*(31-rl.length):=λg l kg kl cg cl AR=>by
   have gd:dg g=dg p.1/\dg l=dg p.1:=by rcases AR with⟨_,rfl,rfl,_⟩|⟨_,rfl,rfl,_⟩<;>(first|exact aes dx pd dy|exact aer dx pd dy)
   have hg:g∈lL:=dH.2 (by exact aeq pt.1 pt.2 h4 gd.1)
   have hw:Wt ks l<Wt ks g:=by
    rcases AR with⟨h,rfl,rfl,_⟩|⟨h,rfl,rfl,_⟩
    ·exact cs.1.1 h
    ·exact cs.2.1 h
   have ig:Kd (rl.map (·.1)) g:=by rcases AR with⟨_,rfl,_⟩|⟨_,rfl,_⟩<;>assumption
   have b4:SK 31 (KB mw mr mo ma wt rl K) (aL ks top pick mw mr mo ma x y (ent x k1 c1) (ent y k2 c2)) V4 (KB mw mr mo ma (wt++jm top (rl.map (·.1)) (g,l)) (rl++[((g,l),(pick+rl.length) %3)]) K) (rL ks top pick mw mr mo ma):=SK.seq (SK.ite tl nofun λU=>IP (top:=top) (pick:=pick) A o AR hg hb ok (by exact WG r31)) Sn.fin.k
   obtain⟨H4,l4,e4,Kb,Cs⟩:=b4 H3 l3 Fs wi
   have nc:=c.new h4 nO s1 s2 (g:=g) (l:=l) (AR.imp (λh=>⟨h.2.1,h.2.2.1⟩) λh=>⟨h.2.1,h.2.2.1⟩) hw ig
   have cl':=Am top (rl.map (·.1)) (g,l)
   rw[aD]at cl'
   have ct:=nc.ct
   rw[bH,aD,eA]at ct
   refine⟨_,_,H4,l4,aR a1 (aR e2 (aR e3 e4)),Kb,Cs,by rw[cF];exact nc,λz hz=>(bF.1 hz).elim (ok z) λhz=>a7.1 hz▸⟨hg,?_,by show dg g=dg l;exact acq gd.1 gd.2⟩,by rw[bH,bH,eA];omega⟩
   have :=d_ (pick+rl.length) (show 0<3 by decide)
   simp only[s3,aC,bh,or_false];omega
  rcases Int.lt_or_gt_of_ne ne with h|h
  ·exact key y x k2 k1 c2 c1 (.inr ⟨h,rfl,rfl,rfl,rfl,rfl,rfl⟩)
  ·exact key x y k1 k2 c1 c2 (.inl ⟨h,rfl,rfl,rfl,rfl,rfl,rfl⟩)
end
section
variable{n:Nat} {K K':HK} {L L':aE} {mw mr mo ma:Nat} {ks:Ky} {top pick:Nat} {F:M->M} {dr:eY}
theorem DK {m k:Nat} {db:DS} {H H':aj} {vs:aq} {v:V} {l:c8} (hm:vs.length=m) (e:db ⟨H,vs.map some++List.replicate k .none⟩=some (.ret v,⟨H',l⟩)):tH m k db H vs=some (v,H'):=(ag hm).trans (aR e rfl)
theorem IG (k:Nat) (m:M) (i:Int) (c:Cl):jl (k+1) (ent m i c)=false:=by
 simp only[ent,vd,d9,z0,kK,og]
theorem Dr {H:aj} {m:Nat} (h:H[m]?=some (some (.list []))):mG H (.ref m) (.lst [])=some false:=by
 have d:cR H (.ref m)= .lst []:=qB h
 refine zN ((ag (show(jl 8 (cR H (.ref m))&&jl 8 (cR H (.lst [])))=true by rw[d];rfl)).trans ?_)
 rw[d];rfl
theorem IL {H:aj} {m:Nat} {v:V} {vs:aq} (h:H[m]?=some (some (.list (v::vs)))) (hv:jl 7 v=false):mG H (.ref m) (.lst [])=some true:=by
 have e:J3 H (.ref m) (.lst [])=none:=by
  have d:cR H (.ref m)= .lst (v::vs):=qB h
  refine af ?_
  rw[d,kF,d9,hv];exact eW
 have g:zc not H (.ref m) (.lst [])=some true:=aR (e_ h) (aR (x:=b8 H (.lst [])) rfl (ag (show(v::vs).length≠([]:aq).length from qL _)))
 simp only[mG,AQ,e,g,Option.none_or,l9]
theorem HZ (A:UT K mw mr mo ma) (o:jX ks) (h4:top<=4):∀(f:Nat) (wt:eY) (rl:List k5),Cm (Wt ks) F top dr (rl.map (·.1)) wt->(∀x∈rl,iW x)->wt.length+32*(31-rl.length)<f->f<=2000->∀H loc,bP (KB mw mr mo ma wt rl K) H->Loc 31 (rL ks top pick mw mr mo ma) loc->
  ∃AV H' a6,jZ (jt (aS mG (aa 0) (eL az)) (jt (aS eqZ (aa 4) (eL az)) pJ)) zo f ⟨H,loc⟩=some (.next,⟨H',a6⟩)/\bP (KB mw mr mo ma [] AV K) H'/\Loc 31 (rL ks top pick mw mr mo ma) a6/\Cm (Wt ks) F top dr (AV.map (·.1)) []/\∀x∈AV,iW x:=by
 intro xx
 induction xx with
 |zero=>
  intro _ _ _ _ h _ _ _ _ _
  exact nomatch h
 |succ f ih=>
  intro wt rl c ok hf f2 H loc hh hl
  obtain⟨ob,⟨vs,e,hw⟩,hx⟩:=hh.ex
  subst e
  match wt,hw with
  |[],hw=>
   have hv:vs=[]:=q9.1 hw.len
   subst hv
   have t:j_ 31 ((mw,Is (.list []))::(KB mw mr mo ma [] rl K).tail) (rL ks top pick mw mr mo ma) (jt (aS mG (aa 0) (eL az)) (jt (aS eqZ (aa 4) (eL az)) pJ)) false:=.and (c:=false) (c':=false) (.cmp (x:=.ref mw) (.var rfl) (.lst .no (bN _)) λH h=>Dr h.at) nofun
   refine x3 (t H loc hx hl) λH1 e1 h1=>?_
   exact⟨rl,H1,loc,aR e1 rfl,h1.JI λo e=>⟨[],e,hw⟩,hl,c,ok⟩
  |p::wt,hw=>
   refine x5 (hw) λv r e w1 w2=>?_
   subst e
   have t:j_ 31 ((mw,Is (.list (v::r)))::(KB mw mr mo ma [] rl K).tail) (rL ks top pick mw mr mo ma) (jt (aS mG (aa 0) (eL az)) (jt (aS eqZ (aa 4) (eL az)) pJ)) true:=.and (c:=true) (.cmp (x:=.ref mw) (.var rfl) (.lst .no (bN _)) λH h=>IL h.at (by
    obtain⟨k1,c1,k2,c2,rfl,_⟩:=w1
    rw[kF,d9,IG];rfl)) λU=>.and (c:=true) (.cmp (x:=.ref mo) (.var rfl) (.lst .no (bN _)) λH h=>DD (h.is (.tail _ (.tail _ (.head _))))) λU=>.ace
   refine x3 (t H loc hx hl) λH1 e1 h1=>?_
   have h1:bP (KB mw mr mo ma (p::wt) rl K) H1:=h1.JI λo e=>⟨_,e,v,r,rfl,w1,w2⟩
   have lc:=bQ (a:=p) (as:=wt)
   obtain⟨J0,AV,H2,l2,e2,h2,nB,c2,ok2,lt⟩:=MT A o h4 c ok (by omega) H1 loc h1 hl
   obtain⟨rl3,H3,l3,e3,w⟩:=ih J0 AV c2 ok2 (by omega) (by exact aep f2) H2 l2 h2 nB
   exact⟨rl3,H3,l3,aR e1 (aR (x:=zo ⟨H1,loc⟩) e2 e3),w⟩
theorem Ip (o:jX ks) (h4:top<=4) (wo:mw≠mo) (wa:mw≠ma) (oa:mo≠ma) (hk:∀p∈K,p.1≠mw/\p.1≠mo/\p.1≠ma) {wt:eY} (hw:wt.length<=900) (c:Cm (Wt ks) F top dr [] wt) (H:aj) (hh:bP ((mw,mF wt)::(mo,Is (.list []))::(ma,eO)::K) H):
  ∃(rl:List k5) (H':_),gA H [.ref mw,rx ks,.int top,.int pick,.ref mo,.ref ma]=some (.lst (rl.map rv),H')/\bP ((mo,Is (.list []))::(ma,eO)::K) H'/\Cm (Wt ks) F top dr (rl.map (·.1)) []/\∀x∈rl,iW x:=by
 generalize VT:([V.ref mw,rx ks,.int top,.int pick,.ref mo,.ref ma].map some++List.replicate 25 .none:c8)=loc
 have hl:Loc 31 [(5,.ref ma),(4,.ref mo),(3,.int pick),(2,.int top),(1,rx ks),(0,.ref mw)] loc:=by
  subst VT
  exact⟨rfl,λj v e=>match j,e with
   |0,e|1,e|2,e|3,e|4,e|5,e=>e▸rfl
   |j+6,e=>nomatch e⟩
 have ne:=hh.ne (aF _)
 have h1:=hh.new (.list [])
 generalize hmr:H.length=mr at ne h1
 have A:UT K mw mr mo ma:=⟨ne _ (.head _),wo,wa,(ne _ (.tail _ (.head _))).symm,(ne _ (.tail _ (.tail _ (.head _)))).symm,oa,λp hp=>⟨(hk p hp).1,ne p (.tail _ (.tail _ (.tail _ hp))),(hk p hp).2⟩⟩
 refine x3 ((Tg.two (n:=31) (by decide) (by decide):Tg 31 (bx (ao (ah 6) (ao (ah 7) bf))) (.tup [.ref mr,.cmp (rx ks)]) _) (H++[some (.list [])]) loc _ hl) λl1 e1 pN=>?_
 have a1:ba (bx (ao (ah 6) (ao (ah 7) bf))) (bb (ae (iS az) (ae (OU (aa 1)) az))) ⟨H,loc⟩=some (.next,⟨H++[some (.list [])],l1⟩):=by
  have e2:aa 1 ⟨H++[some (.list [])],loc⟩=some (rx ks,⟨H++[some (.list [])],loc⟩):=gH (ak Option.join (hl.2 1 _ rfl))
  have e3:ae (OU (aa 1)) az ⟨H++[some (.list [])],loc⟩=some ([.cmp (rx ks)],⟨H++[some (.list [])],loc⟩):=aR (aR e2 rfl) rfl
  have e4:ae (iS az) (ae (OU (aa 1)) az) ⟨H,loc⟩=some ([.ref mr,.cmp (rx ks)],⟨H++[some (.list [])],loc⟩):=hmr▸aR (x:=iS az ⟨H,loc⟩) rfl (aR e3 rfl)
  exact aR (aR e4 rfl) (gH e1)
 obtain⟨rl,H2,l2,e2,h2,nB,c2,ok⟩:=HZ (rl:=[]) (pick:=pick) A o h4 2000 wt c nofun (by rw[i8];exact aeo hw) (aF _) _ l1 (bP.sub (λp hp=>(pU p).mp hp) _ h1) pN
 have r:RK 31 ((mr,Is (.list (rl.map rv)))::(mo,Is (.list []))::(ma,eO)::K) (rL ks top pick mw mr mo ma) (ax (eB (Nm (aa 6))) aT) ((mo,Is (.list []))::(ma,eO)::K) (.lst (rl.map rv)):=RK.fst (RK.Ni (.var rfl) λp hp=>ne p (.tail _ hp))
 refine x4 (r H2 l2 h2.drop nB) λH3 l3 e3 h3=>?_
 refine⟨rl,H3,?_,h3,c2,ok⟩
 have e:rn ⟨H,loc⟩=some (.ret (.lst (rl.map rv)),⟨H3,l3⟩):=aR a1 (aR e2 e3)
 subst VT
 exact DK rfl e
end
section
variable{n:Nat} {K K':HK} {L L':aE}
def rB (c:Nat):ar:=match A7 c with|some y=>y|none=>Pd [c]
def V6 (w:ar):M:=(kC w [102],kC w [105],kC w [108])
abbrev Ce:=M×Nat×Cl
noncomputable def e0:Ce:=((0,0,0),0,[])
def JT (e:Ce):V:=ent e.1 e.2.1 e.2.2
def wg (e:Ce) (c:Nat):Ce:=(ad (V6 (rB c)) e.1,(rB c).length+e.2.1,eE e.2.2 (rB c) 1)
def gi (a:List Ce×Ce) (c:Nat):List Ce×Ce:=if c==32 then(a.1++[a.2],e0)else if jW c then a else(a.1,wg a.2 c)
def Cq (a:List Ce×Ce) (t:ar):List Ce×Ce:=t.foldl gi a
def t9 (a:List Ce×Ce):aq:=(a.1++[a.2]).map JT
theorem QY (a:List Ce×Ce) {H:aj} {m:Nat} (h:H[m]?=some (some (.list (t9 a)))):gC H (.ref m) (.int (-1))=some (JT a.2):=by
 have len:(t9 a).length=a.1.length+1:=by simp[t9]
 refine aR (x:=b8 H (.ref m)) (e_ h) ?_
 show iR (t9 a) (-1)=_
 unfold iR
 rw[len,af (by decide),ag (by exact acz),show(-1+((a.1.length+1:Nat):Int)).toNat=a.1.length by exact Wg]
 simp only[t9,cF,bo,fB]
 rw[oM (by simp)];simp
theorem Ln (a:List Ce×Ce) (e:Ce) {H:aj} {m:Nat} (h:H[m]?=some (some (.list (t9 a)))):wm H (.ref m) (.int (-1)) (JT e)=some (H.set m (some (.list (t9 (a.1,e))))):=by
 have len:(t9 a).length=a.1.length+1:=by simp[t9]
 refine aR (x:=dE H m) (gK h) ?_
 rw[len,ag ⟨by exact acy,by exact acx⟩,af (by decide),show(-1+((a.1.length+1:Nat):Int)).toNat=a.1.length by exact Wg]
 simp only[t9,cF,bo,fB]
 rw[List.set_append_right _ _ (by simp)];simp
theorem RY (b:Bool):j_ n K ((1,V.bool b)::L) (jt (aS fy (aa 1) (dC (.bool true))) (jt (aS fy (aa 1) (dC (.bool false))) pJ)) false:=by
 cases b with
 |false=>exact j_.and (c:=true) (c':=false&&true) (.cmp (x:=.bool false) (y:=.bool true) (.var rfl) .con λH U=>rfl) λU=>.and (c:=false) (c':=true) (.cmp (x:=.bool false) (y:=.bool false) (.var rfl) .con λH U=>rfl) nofun
 |true=>exact j_.and (c:=false) (c':=false) (.cmp (x:=.bool true) (y:=.bool true) (.var rfl) .con λH U=>rfl) nofun
theorem Qb {b c:Bool} (h4:L.lookup 4=some (.bool b)) (h5:L.lookup 5=some (.bool c)):Ev n K L (fS GI) (.lst []):=by
 have :=Ev.comp (n:=n) (K:=K) (L:=L) (di:=cI (bb (ae (aa 4) (ae (aa 5) az)))) (js:=[none,none]) (da:=ah 1) (dt:=jt (aS fy (aa 1) (dC (.bool true))) (jt (aS fy (aa 1) (dC (.bool false))) pJ)) (de:=aa 1) (l:=[.bool b,.bool c]) (λU=>false) (λU=>.none)
  (.iter (x:=.tup [.bool b,.bool c]) (.tup (.and (.var h4) (.and (.var h5) .no)) (ay rfl)) rfl) (ay rfl) λx hx=>by
   have :∃b,x= .bool b:=by
    simp only[aC,bh,or_false]at hx
    rcases hx with rfl|rfl<;>exact⟨_,rfl⟩
   obtain⟨b,rfl⟩:=this
   exact⟨_,.var (by decide),vc rfl,RY b,nofun⟩
 exact this
theorem EA {o m:Nat} (ho:(o,Is (.list []))∈K) (hm:∀p∈K,p.1≠m) {a:List Ce×Ce} {N:Nat} (hc0:eN N a.2.2.2) (hN:N<=300) {c:Nat} (hc:c<1114112) (h1:a.1.length<1000) (h2:(rB c).length<=10) (l1:L.lookup 1=some (.ref o)) (l2:L.lookup 2=some (.ref m)) (l6:L.lookup 6=none):
  SK 12 ((m,Is (.list (t9 a)))::K) ((3,.str [c])::L) Gd ((m,Is (.list (t9 (gi a c))))::K) ((4,.bool (c==32))::(5,.bool (jW c))::(3,.str [c])::L):=by
 refine SK.seq (Sn.swap (x:=.bool (c==32)) (y:=.bool (jW c)) (by decide) (by decide) (.tup (.and (.cM (.and (.var rfl) .no) (HH c hc)) (.and (.cM (.and (.var rfl) .no) (aat c)) .no)) (ay rfl))).k ?_
 have ex:Sn 12 ((m,Is (.list (t9 a)))::K) ((4,V.bool (c==32))::(5,V.bool (jW c))::(3,V.str [c])::L) (fU (bC ry i6 (aa 1) (ae (fS GI) az))) ((4,V.bool (c==32))::(5,V.bool (jW c))::(3,V.str [c])::L):=Sn.expr (v:=.none) (.FR (x:=.ref o) (vs:=[.lst []]) (.var l1) (.and (Qb rfl rfl) .no) (λH h=>by
   have hH:=h.is (.tail _ ho)
   have z:Ux H (λl=>if l.length+0<=16777216 then some (l++[])else none) (.ref o)=some (.none,H):=aR (x:=dE H o) (gK hH) (ak (λx=>some (V.none,x)) (sv hH))
   exact⟨H,(ak (λr=>Option.or r _) z).trans rfl,h⟩) λH h=>ak Option.isSome (e_ (h.is (.tail _ ho))))
 refine SK.seq ex.k (SK.seq (SK.ite (c:=c==32) (.Fm (x:=.bool (c==32)) (.var rfl) λU=>rfl) (λhc'=>?_) λhc'=>?_) Sn.fin.k)
 ·have e:t9 (gi a c)=t9 a++[JT e0]:=by simp only[t9,gi,hc',fa,cF,bo,fB]
  rw[e]
  exact SK.seq (SK.append (.var l2) (.tup (.and .con (.and .con (.and .con (.and .con (.and .Kx .no))))) (ay rfl)) (by simp[t9];exact acA h1) hm) Sn.fin.k
 ·refine SK.seq (SK.ite (c:=!jW c) (.not (.Fm (x:=.bool (jW c)) (.var rfl) λU=>rfl)) (λhs=>?_) λhs=>?_) Sn.fin.k
  ·have e:gi a c=(a.1,wg a.2 c):=by simp only[gi,hc',show jW c=false by simpa using hs,fE,d8]
   rw[e]
   have ct:∀{b:ar},Ev 12 ((m,Is (.list (t9 a)))::K) ((6,.str (rB c))::(4,V.bool (c==32))::(5,V.bool (jW c))::(3,V.str [c])::L) (bC nH rW (aa 6) (ae (dC (.str b)) az)) (.int (kC (rB c) b)):=.sP (.var rfl) (.and .con .no) λH U=>rfl
   refine SK.seq (Sn.fH (v:=.str (rB c)) (by decide) (.cM (.and (.var rfl) .no) (aar c))).k (SK.mono (SK.seq (SK.store (m:=m) (x:=.ref m) (y:=.int (-1)) (v:=JT (wg a.2 c)) (.cM (vs:=[JT a.2,.tup [.int (kC (rB c) [102]),.int (kC (rB c) [105]),.int (kC (rB c) [108]),.int ((rB c).length),.eK (j6 [(rB c,1)]) (pC [(rB c,1)])]]) (.and (.idx (.var l2) (.neg .con) λH h=>QY a h.at) (.and (.tup (.and ct (.and ct (.and ct (.and (.call (.and (.var rfl) .no) λH h=>by rw[rZ];rfl) (.and (.F3 (.cons (.var rfl) .con .nil) (ay rfl)) .no))))) (ay rfl)) .no)) (HS hc0 (by exact aen hN) (by exact PN h2) 1 (kC (rB c) [102]) (kC (rB c) [105]) (kC (rB c) [108]) (rB c).length a.2.1.1 a.2.1.2.1 a.2.1.2.2 a.2.2.1)) (.var l2) (.neg .con) hm λH hH=>Ln a _ hH) Sn.fin.k) λj v e=>?_)
   refine lk e (bu.2 λz=>?_)
   subst z
   exact nomatch l6.symm.trans e
  ·have e:gi a c=a:=by simp only[gi,hc',show jW c=true by simpa using hs,fE,d8,fa]
   rw[e]
   exact Sn.fin.k
theorem It (a:List Ce×Ce) (c:Nat):(gi a c).1.length<=a.1.length+1:=by
 unfold gi
 split
 ·simp
 ·split<;>exact gM _
theorem EC {a:List Ce×Ce} {N c:Nat} (h:eN N a.2.2.2) (h2:(rB c).length<=10):eN (N+1) (gi a c).2.2.2:=by
 unfold gi
 split
 ·exact eN.nil.mono (bN _)
 ·split
  ·exact h.mono (gM _)
  ·exact h.add (by exact PN h2) 1
theorem EB {o m:Nat} (ho:(o,Is (.list []))∈K) (hm:∀p∈K,p.1≠m) (l1:L.lookup 1=some (.ref o)) (l2:L.lookup 2=some (.ref m)) (fr:∀k,3<=k->L.lookup k=none):∀(t:ar) (a:List Ce×Ce) (N:Nat) H loc,(∀c∈t,c<1114112/\(rB c).length<=10)->a.1.length+t.length<900->eN N a.2.2.2->N+t.length<=300->
  bP ((m,Is (.list (t9 a)))::K) H->Loc 12 L loc->∃H' a6,iT (ah 3) Gd (t.map λc=>.str [c]) ⟨H,loc⟩=some (.next,⟨H',a6⟩)/\bP ((m,Is (.list (t9 (Cq a t))))::K) H'/\Loc 12 L a6:=by
 intro xx
 induction xx with
 |nil=>
  intro a N H loc _ _ _ _ hh hl
  exact⟨H,loc,rfl,hh,hl⟩
 |cons c t ih=>
  intro a N H loc ht h1 h2 h3 hh hl
  have hc:=ht c cV
  rw[bQ]at h1 h3
  refine x5 (EA ho hm h2 (by exact aem h3) hc.1 (by exact acw h1) hc.2 l1 l2 (fr 6 (by decide)) H (loc.set 3 (some (.str [c]))) hh (hl.set 3 _ (by decide))) λbT g_ iO cH k₂=>?_
  have b:=It a c
  refine x4 (ih (gi a c) (N+1) bT g_ (λx hx=>ht x (b9 _ hx)) (by exact acv h1 b) (EC h2 hc.2) (by exact ael h3) cH (k₂.mono λk v e=>by
   have ne:∀j,3<=j->(k==j)=false:=λj hj=>bu.2 λz=>by subst z;exact nomatch(fr k hj).symm.trans e
   exact lk (lk (lk e (ne _ (by decide))) (ne _ (by decide))) (ne _ (by decide)))) λwz Pc ab4 w=>?_
  exact⟨wz,Pc,j8 (st₁:=⟨H,loc.set 3 (some (.str [c]))⟩) rfl iO ab4,w⟩
theorem Lm {o:Nat} (ho:(o,Is (.list []))∈K) {t:ar} (ht:∀c∈t,c<1114112/\(rB c).length<=10) (hl:t.length<=300):Fn K jD [.str t,.ref o] (.lst (t9 (Cq ([],e0) t))):=by
 refine Fn.ofK rfl ?_
 show RK (2+10) K _ s_ K _
 refine RK.abq (us:=[JT e0]) (by decide) (.and (.tup (.and .con (.and .con (.and .con (.and .con (.and .Kx .no))))) (ay rfl)) .no) (ay rfl) λm hm=>?_
 refine RK.seq (K':=(m,Is (.list (t9 (Cq ([],e0) t))))::K) (L':=(2,.ref m)::(List.range 2).zip [.str t,.ref o]) (λH loc hh hL=>?_) (RK.fst (RK.Ni (.var rfl) hm))
 refine x4 (EB ho hm (L:=(2,.ref m)::(List.range 2).zip [.str t,.ref o]) rfl rfl (λk hk=>by
  match k with
  |0|1|2=>omega
  |k+3=>rfl) t ([],e0) 0 H loc ht (by simp;exact aek hl) eN.nil (by exact aej hl) hh hL) λH' a6 e w=>?_
 refine⟨H',a6,?_,w⟩
 exact aR (x:=cI (aa 0) ⟨H,loc⟩) (a:=(t.map λc=>.str [c],⟨H,loc⟩)) (aR (x:=aa 0 ⟨H,loc⟩) (gH (ak Option.join (hL.2 0 _ rfl))) rfl) e
theorem qy (a:List Ce×Ce) (t u:ar):Cq a (t++u)=Cq (Cq a t) u:=by simp[Cq]
theorem QZ (a:List Ce×Ce) (c:Nat) (h:(c==32)=false) (h':jW c=true):Cq a [c]=a:=by
 simp only[Cq,List.foldl_cons,List.foldl_nil,gi,h,h',fE,d8,fa]
theorem ED:∀(t:ar) (a:List Ce×Ce),(∀c∈t,(c==32)=false/\jW c=false)->Cq a t=(a.1,t.foldl wg a.2):=by
 intro xx
 induction xx with
 |nil=>
  intro a _
  exact rfl
 |cons c t ih=>
  intro a h
  have hc:=h c cV
  have e:gi a c=(a.1,wg a.2 c):=by simp only[gi,hc.1,hc.2,fE,d8]
  show Cq (gi a c) t=_
  rw[e,ih _ λx hx=>h x (b9 _ hx)];rfl
theorem zT (w:ar) (t:Int):∀cl:Cl,qf (eE cl w t)=qf cl+t:=by
 intro xx
 induction xx with
 |nil=>
  show t+0=0+t;exact aei
 |cons p r ih=>
  by_cases q:p.1=w
  ·rw[show eE (p::r) w t=(p.1,p.2+t)::r from ag q]
   show p.2+t+qf r=p.2+qf r+t;exact Int.add_right_comm ..
  ·rw[show eE (p::r) w t=p::eE r w t from af q]
   show p.2+qf (eE r w t)=p.2+qf r+t;rw[ih,Int.add_assoc]
theorem Jg:∀(t:ar) (e:Ce),qf (t.foldl wg e).2.2=qf e.2.2+t.length:=by
 intro xx
 induction xx with
 |nil=>
  intro e
  exact(gp _).symm
 |cons c t ih=>
  intro e
  show qf (t.foldl wg (wg e c)).2.2=_
  rw[ih,show(wg e c).2.2=eE e.2.2 (rB c) 1 from rfl,zT,bQ];exact WC
theorem Mv:∀(t:ar) (e:Ce) (N:Nat),(∀c∈t,(rB c).length<=10)->eN N e.2.2->eN (N+t.length) (t.foldl wg e).2.2:=by
 intro xx
 induction xx with
 |nil=>
  intro e N _ h
  exact h
 |cons c t ih=>
  intro e N ht h
  have :=ih (wg e c) (N+1) (λx hx=>ht x (.tail _ hx)) (h.add (by have :=ht c (.head _);exact PN this) 1)
  rw[bQ,gq t.length,<-iq];exact this
end
section
variable{n:Nat} {K K':HK} {L L':aE}
def PQ:List M:=dS 2++dS 3
noncomputable def pQ:ar:=[0,1,2,4,7,8,9,10,11,12]
noncomputable def Pg:List (ar×ar):=[([102,102],[64256]),([102,105],[64257]),([102,108],[64258]),([102,102,102],[64256,102]),([102,102,105],[64259]),([102,102,108],[64260]),([102,105,105],[64257,105]),([102,105,108],[64257,108]),([102,108,108],[64258,108])]
def lig (m:M):ar:=(Pg.lookup (word m)).getD (word m)
def uK (m:M) (b:Nat):ar:=(word m).map λc=>119808+52*b+c-97
def gZ (m:M) (w:Nat):ar:=if w %3=0 then lig m else if w %3=1 then UW (word m).reverse else uK m (pQ.getD (w/3 %10) 0)
noncomputable def gQ (w:Nat):Nat:=([173,847,6150,6155,6156,6157,8203,8204,8205,8288,65279,65024+w/1440 %16]:ar).getD (w/120 %12) 0
def cy (m:M) (w:Nat):ar:=(gZ m w).take (w/30 %((gZ m w).length+1))++[gQ w]++(gZ m w).drop (w/30 %((gZ m w).length+1))
def sgT:List (Nat×ar):=[(102,[102]),(105,[105]),(108,[108]),(70,[102]),(73,[105]),(76,[108]),(64256,[102,102]),(64257,[102,105]),(64258,[102,108]),(64259,[102,102,105]),(64260,[102,102,108])]++pQ.flatMap λb=>[102,105,108].map λc=>(119808+52*b+c-97,[c])
def sg (c:Nat):ar:=(sgT.lookup c).getD []
def VA (p:Nat×ar):Bool:=(rB p.1==p.2)&&((p.1 !=32)&&(!(jW p.1)&&(Nat.blt p.1 1114112&&Nat.ble p.2.length 10)))
theorem QS:sgT.all VA=true:=by decide+kernel
def ceG (e:Ce) (c:Nat):Ce:=(ad (V6 (sg c)) e.1,(sg c).length+e.2.1,eE e.2.2 (sg c) 1)
noncomputable def U2 (cl:Cl):aG:=cl.map λp=>(List.replicate p.2.toNat p.1).flatten
def O' (e:Ce) (m:M):Bool:=e.1==m&&(e.2.1==dg m&&(qn (U2 e.2.2).flatten==word m&&e.2.2.all λp=>decide (0<=p.2/\p.2<=3)&&Nat.ble p.1.length 10))
def UZ (t:ar) (m:M):Bool:=(t.all λc=>sgT.contains (c,sg c))&&(O' (t.foldl ceG e0) m&&Nat.ble t.length 3)
theorem Jd:(PQ.all λm=>UZ (lig m) m&&(UZ (UW (word m).reverse) m&&pQ.all λb=>UZ (uK m b) m))=true:=by decide+kernel
structure GF (t:ar) (m:M):Prop where
 ns:∀c∈t,(c==32)=false/\jW c=false
 sm:∀c∈t,c<1114112/\(rB c).length<=10
 rd:O' (t.foldl wg e0) m=true
 JS:t.length<=3
theorem Jf {α β:Type} {f g:α->β->α}:∀(t:List β) (a:α),(∀c∈t,∀a,f a c=g a c)->t.foldl f a=t.foldl g a:=by
 intro xx
 induction xx with
 |nil=>
  intro _ _
  exact rfl
 |cons c t ih=>
  intro a h
  rw[List.foldl_cons,List.foldl_cons,h c (.head _)];exact ih _ λx hx=>h x (.tail _ hx)
theorem GF.of {t:ar} {m:M} (o:UZ t m=true):GF t m:=by
 simp only[UZ,bp,aI,fN]at o
 refine y3 (o) λh1 h2 h4=>?_
 have ok:∀c∈t,rB c=sg c/\(c==32)=false/\jW c=false/\c<1114112/\(sg c).length<=10:=λc hc=>by
  have :=aI.1 QS _ (List.contains_iff_mem.1 (h1 c hc))
  simp only[VA,bp,beq_iff_eq,bne_iff_ne,mh,Nat.blt_eq,fN]at this
  exact⟨this.1,by simpa using this.2.1,this.2.2.1,this.2.2.2⟩
 exact⟨λc hc=>⟨(ok c hc).2.1,(ok c hc).2.2.1⟩,λc hc=>⟨(ok c hc).2.2.2.1,by rw[(ok c hc).1];exact(ok c hc).2.2.2.2⟩,by rw[Jf (g:=ceG) t e0 λc hc a=>by unfold wg ceG;rw[(ok c hc).1]];exact h2,h4⟩
structure EOk (e:Ce) (m:M):Prop where
 mm:e.1=m
 d:e.2.1=dg m
 so:qn (U2 e.2.2).flatten=word m
 cp:∀p∈e.2.2,(0<=p.2/\p.2<=3)/\p.1.length<=10
theorem GF.e {t:ar} {m:M} (g:GF t m):EOk (t.foldl wg e0) m:=by
 have :=g.rd
 simp only[O',bp,beq_iff_eq,aI,iB,fN]at this
 exact⟨this.1,this.2.1,this.2.2.1,this.2.2.2⟩
theorem DV (w:Nat):pQ.getD (w/3 %10) 0∈pQ:=by
 rw[dK,bZ (show w/3 %10<pQ.length from d_ _ (by decide))]
 exact md _
theorem ju {m:M} (hm:m∈PQ) (w:Nat):GF (gZ m w) m:=by
 have :=aI.1 Jd m hm
 simp only[bp]at this
 unfold gZ
 split
 ·exact .of this.1
 ·split
  ·exact .of this.2.1
  ·exact .of (aI.1 this.2.2 _ (DV w))
theorem En:(([173,847,6150,6155,6156,6157,8203,8204,8205,8288,65279]++(List.range 16).map (65024+·)).all λc=>(c !=32)&&(jW c&&(Nat.blt c 1114112&&Nat.ble (rB c).length 10)))=true:=by decide+kernel
theorem pY (w:Nat):(gQ w==32)=false/\jW (gQ w)=true/\gQ w<1114112/\(rB (gQ w)).length<=10:=by
 have mem:gQ w∈[173,847,6150,6155,6156,6157,8203,8204,8205,8288,65279]++(List.range 16).map (65024+·):=by
  unfold gQ
  rw[dK,bZ (show w/120 %12<12 from d_ _ (by decide)),oy]
  have :=md (show w/120 %12<([173,847,6150,6155,6156,6157,8203,8204,8205,8288,65279,65024+w/1440 %16]:ar).length from d_ _ (by decide))
  generalize([173,847,6150,6155,6156,6157,8203,8204,8205,8288,65279,65024+w/1440 %16]:ar)[w/120 %12]'_=x at this
  rw[show([173,847,6150,6155,6156,6157,8203,8204,8205,8288,65279,65024+w/1440 %16]:ar)=[173,847,6150,6155,6156,6157,8203,8204,8205,8288,65279]++[65024+w/1440 %16]from rfl,bF,a7]at this
  exact bF.2 (this.imp id λe=>aY.2 ⟨_,eF.2 (d_ _ (by decide)),e.symm⟩)
 have :=aI.1 En _ mem
 simp only[bp,bne_iff_ne,Nat.blt_eq,fN]at this
 exact⟨by simpa using this.1,this.2⟩
theorem xd {m:M} (hm:m∈PQ) (w:Nat) (a:List Ce×Ce):Cq a (cy m w)=(a.1,(gZ m w).foldl wg a.2):=by
 have u:=pY w
 rw[<-ED _ a (ju hm w).ns]
 unfold cy
 rw[qy,qy,QZ _ _ u.1 u.2.1,<-qy,mZ]
theorem pZ (m:M) (w:Nat):(cy m w).length=(gZ m w).length+1:=by
 have e:=ak List.length (mZ (w/30 %((gZ m w).length+1)) (gZ m w))
 unfold cy
 simp only[bH,eA]at e |-;exact aeh e
theorem xb {m:M} (hm:m∈PQ) (w:Nat):∀c∈cy m w,c<1114112/\(rB c).length<=10:=λc hc=>by
 have g:=ju hm w
 rcases bF.1 hc with q|q
 ·rcases bF.1 q with q|q
  ·exact g.sm c (kW q)
  ·rw[a7]at q;subst q;exact(pY w).2.2
 ·exact g.sm c (qW q)
theorem P7 {m m':M} (hm:m∈PQ) (JP:m'∈PQ) (w w':Nat):t9 (Cq ([],e0) (cy m w++[32]++cy m' w'))=[ent m (dg m) ((gZ m w).foldl wg e0).2.2,ent m' (dg m') ((gZ m' w').foldl wg e0).2.2]:=by
 have b:∀a:List Ce×Ce,Cq a [32]=(a.1++[a.2],e0):=λa=>rfl
 rw[qy,qy,xd hm,b,xd JP]
 show[JT ((gZ m w).foldl wg e0),JT ((gZ m' w').foldl wg e0)]=_
 have g:=(ju hm w).e
 have g':=(ju JP w').e
 unfold JT
 rw[g.mm,g.d,g'.mm,g'.d]
theorem yx {m:M} (hm:m∈PQ) (w:Nat):eN 10 ((gZ m w).foldl wg e0).2.2/\qf ((gZ m w).foldl wg e0).2.2=(cy m w).length-1:=by
 have g:=ju hm w
 refine⟨(Mv _ e0 0 (λc hc=>(g.sm c hc).2) eN.nil).mono (by have :=g.JS;exact aeg this),?_⟩
 rw[Jg,pZ]
 show(0:Int)+_=_
 exact aef
end
section
variable{n:Nat} {K K':HK} {L L':aE}
theorem o_ {H:aj} {l:aq} {i:Nat} {v:V} (h:l[i]?=some v):gC H (.tup l) (.int i)=some v:=(si l i).trans h
theorem Ev.dm {a:D} {z:Nat} (x y:Nat) (ha:Ev n K L a (.int z)) (hx:0<x) (JM:x<1073741824) (hy:0<y):Ev n K L (aB fw (aB fL a (dC (.int x))) (dC (.int y))) (.int ((z/x %y:Nat):Int)):=
 .bin (.bin ha .con (kH z x hx JM)) .con (eG _ y hy)
theorem Ev.aaS {a b:D} {s:ar} (ha:Ev n K L a (.str s)) (hb:Ev n K L b (.int (-1))):Ev n K L (w5 a b) (.str s.reverse):=Gv.two ha hb λU U U U U=>rfl
theorem join_ones:∀(l:ar),cL [] (l.map λc=>[c])=l
 |[]=>rfl
 |[a]=>rfl
 |a::b::l=>by
  have :=join_ones (b::l)
  simp only[bo]at this |-
  simp only[cL,eh,this];rfl
theorem Dj (l:aG):qm (l.map V.str)=some l:=by
 induction l with
 |nil=>rfl
 |cons a l ih=>rw[bo,BW,ih];rfl
theorem Ih (l:ar):((l.map λc=>[c]).map List.length).sum=l.length:=by
 induction l with
 |nil=>rfl
 |cons a l ih=>simp only[bo,n9,ih,bQ,i8];exact acB
def Pf:V:=.eK (lR (Pg.map λp=>(p.1,V.str p.2)) ([],[])).1 (lR (Pg.map λp=>(p.1,V.str p.2)) ([],[])).2
theorem GL:PQ=[(0,0,2),(0,1,1),(0,2,0),(1,0,1),(1,1,0),(2,0,0),(0,0,3),(0,1,2),(0,2,1),(0,3,0),(1,0,2),(1,1,1),(1,2,0),(2,0,1),(2,1,0),(3,0,0)]:=by kernel_rfl
theorem L4:AllP (λm=>∀H,nT H Pf [.str (word m),.str (word m)]=some (.str (lig m),H)) PQ:=by
 rw[GL]
 repeat' first|exact True.intro|refine And.intro ?_ ?_
 all_goals exact λH=>by kernel_rfl
theorem wZ {m:M} (hm:m∈PQ):dg m=2\/dg m=3:=by
 simp only[PQ,bF,eD]at hm;exact hm
theorem De {m:M}:∀c∈word m,97<=c/\c<=108:=λc hc=>by
 simp only[word,bF,List.mem_replicate]at hc
 rcases hc with(h|h)|h<;>omega
theorem MX (w:Nat):pQ.getD (w/3 %10) 0<=12:=by
 have :pQ.all λa=>Nat.ble a 12:=rfl
 exact ay (aI.1 this _ (DV w))
theorem MS {m:M} {b:Nat} (hb:b<=12) (h2:L.lookup 2=some (.str (word m))) (h4:L.lookup 4=some (.int ((119808+52*b:Nat):Int))) (hd:dg m<=100):Ev n K L (bC nH k_ (dC (.str [])) (ae (fS C6) az)) (.str (uK m b)):=by
 have js:jL [none,none,none,none,some 4] L=[(4,.int ((119808+52*b:Nat):Int))]:=by
  simp only[jL,List.zipIdx,oG,Option.bind_none,iA,List.filterMap_nil,h4];rfl
 have wl:=d7 m
 have cp:Ev n K L (fS C6) (.lst (((uK m b).map λc=>[c]).map V.str)):=by
  have :=Ev.zI (n:=n) (K:=K) (L:=L) (js:=[none,none,none,none,some 4]) (k:=1) (di:=cI (aa 2)) (de:=N6) ((word m).map λc=>(.str [c],.str [119808+52*b+c-97]))
   (by rw[br];exact .iter (.var h2) rfl) (by rw[aD];exact aee wl hd) (by decide) (by rw[js];rfl) λz hz=>by
    obtain⟨c,hc,rfl⟩:=aY.1 hz
    have :=De c hc
    rw[js]
    refine .call (vs:=[.int ((119808+52*b+c-97:Nat):Int)]) (.and (.bin (x:=.int ((119808+52*b+c:Nat):Int)) (y:=.int 97) (.bin (x:=.int ((119808+52*b:Nat):Int)) (y:=.int (c:Int)) (.var rfl) (.call (.and (.var rfl) .no) λH U=>rfl) rfl) .con ?_) .no) λH U=>?_
    ·show some (V.int (((119808+52*b+c:Nat):Int)-97))=_
     congr 2;omega
    ·rw[BH,ag (by omega),j3]
  rw[br]at this
  rw[uK,br,br];exact this
 refine .sP (s:=[]) .con (.and cp .no) λH U=>?_
 rw[Dt]
 refine(ak (Option.map _) (aR (x:=b8 H (.lst _)) rfl (aR (Dj _) (ag ?_)))).trans (by rw[join_ones];rfl)
 rw[Ih,aD,uK,aD,i8];exact aed wl hd
theorem Mu {m:M} (hm:m∈PQ) {w:Nat} (h1:L.lookup 1=some (.int w)) (h2:L.lookup 2=some (.str (word m))) (h3:L.lookup 3=some Pf) (h4:L.lookup 4=some (.int ((119808+52*pQ.getD (w/3 %10) 0:Nat):Int))):
  Ev n K L (aH (bb (ae (bC xK nT (aa 3) (ae (aa 2) (ae (aa 2) az))) (ae (bC nH uR (w5 (aa 2) (lN (dC (.int 1)))) az) (ae (bC nH k_ (dC (.str [])) (ae (fS C6) az)) az)))) (aB fw (aa 1) (dC (.int 3)))) (.str (gZ m w)):=by
 have d:=wZ hm
 have wl:=d7 m
 refine .idx (x:=.tup [.str (lig m),.str (UW (word m).reverse),.str (uK m (pQ.getD (w/3 %10) 0))]) (y:=.int ((w %3:Nat):Int)) (.tup (.and (.FR (.var h3) (.and (.var h2) (.and (.var h2) .no)) (λH h=>⟨H,L4.of m hm H,h⟩) λU U=>rfl) (.and (.sP (s:=(word m).reverse) (vs:=[]) (.aaS (.var h2) (.neg .con)) .no λH U=>?_) (.and (MS (MX w) h2 h4 (by exact PM d)) .no))) (ay rfl)) (.bin (.var h1) .con (eG w 3 (by decide))) λH U=>?_
 ·rw[IV,ag (by rw[List.length_reverse];exact aec d wl)];rfl
 ·refine o_ ?_
  unfold gZ
  rcases(by omega :w %3=0\/w %3=1\/w %3=2)with q|q|q<;>rw[q]<;>rfl
theorem zS {m:M} (hm:m∈PQ) (w:Nat):Fn K fF [m.v,.int w] (.str (cy m w)):=by
 have d:=wZ hm
 refine Fn.of rfl ?_
 show Rt (2+9) K _ rm _
 have JS:=(ju hm w).JS
 have ul:=(pY w).2.2.1
 have m12:=d_ (w/120) (show 0<12 by decide)
 refine Rt.seq (Sn.fH (by decide) (.cM (.and (.var rfl) .no) (fV (iQ.v m) (by exact PM d)))) ?_
 refine Rt.seq (Sn.fH (v:=Pf) (by decide) (.F3 (.cons .con .con (.cons .con .con (.cons .con .con (.cons .con .con (.cons .con .con (.cons .con .con (.cons .con .con (.cons .con .con (.cons .con .con .nil))))))))) (ay rfl))) ?_
 refine Rt.seq (Sn.fH (v:=.int ((119808+52*pQ.getD (w/3 %10) 0:Nat):Int)) (by decide) (.bin (y:=.int ((52*pQ.getD (w/3 %10) 0:Nat):Int)) .con (.bin (y:=.int ((pQ.getD (w/3 %10) 0:Nat):Int)) .con (.idx (x:=.tup (pQ.map λ(a:Nat)=>V.int (a:Int))) (.tup (.and .con (.and .con (.and .con (.and .con (.and .con (.and .con (.and .con (.and .con (.and .con (.and .con .no)))))))))) (ay rfl)) (.dm 3 10 (.var rfl) (by decide) (by decide) (by decide)) λH U=>?_) (Bk (by rfl))) rfl)) ?_
 ·refine o_ ?_
  rw[aQ,dK,bZ (show w/3 %10<pQ.length from d_ _ (by decide))];rfl
 refine Rt.seq (Sn.fH (by decide) (Mu hm rfl rfl rfl rfl)) ?_
 generalize ht:gZ m w=t at JS
 refine Rt.seq (Sn.fH (v:=.int (gQ w)) (by decide) (.idx (x:=.tup (([173,847,6150,6155,6156,6157,8203,8204,8205,8288,65279,65024+w/1440 %16]:ar).map λ(a:Nat)=>V.int (a:Int))) (y:=.int ((w/120 %12:Nat):Int)) (.tup (.and .con (.and .con (.and .con (.and .con (.and .con (.and .con (.and .con (.and .con (.and .con (.and .con (.and .con (.and (.bin .con (.dm 1440 16 (.var rfl) (by decide) (by decide) (by decide)) rfl) .no)))))))))))) (ay rfl)) (.dm 120 12 (.var rfl) (by decide) (by decide) (by decide)) λH U=>?_)) ?_
 ·refine o_ ?_
  unfold gQ
  rw[aQ,dK,bZ (by exact m12)];rfl
 refine Rt.seq (Sn.fH (v:=.int ((w/30 %(t.length+1):Nat):Int)) (by decide) (.bin (.bin (.var rfl) .con (kH w 30 (by decide) (by decide))) (.bin (x:=.int t.length) (.call (.and (.var rfl) .no) λH U=>rfl) .con rfl) (eG _ (t.length+1) (Nat.succ_pos _)))) ?_
 have e:cy m w=t.take (w/30 %(t.length+1))++[gQ w]++t.drop (w/30 %(t.length+1)):=by unfold cy;rw[ht]
 rw[e]
 have tk:=List.length_take_le' (w/30 %(t.length+1)) t
 have td:(t.drop (w/30 %(t.length+1))).length<=t.length:=by simp
 refine Rt.fst (.ret (.bin (.bin (x:=.str (t.take (w/30 %(t.length+1)))) (y:=.str [gQ w]) (.slice (x:=.str t) (i:=none) (j:=some ((w/30 %(t.length+1):Nat):Int)) (.var rfl) .p0 (.p (.var rfl)) λH U=>?_) (.call (vs:=[.int (gQ w)]) (.and (.var rfl) .no) λH U=>?_) (r9 ?_)) (.slice (x:=.str t) (i:=some ((w/30 %(t.length+1):Nat):Int)) (j:=none) (.var rfl) (.p (.var rfl)) .p0 λH U=>?_) (r9 ?_)))
 ·simp only[Dk,yq]
 ·rw[BH,ag (by exact acs ul),j3]
 ·rw[eA];exact WH JS tk
 ·simp only[Dk,Dl]
 ·rw[bH,eA];exact aeb JS tk td
end
section
variable{n:Nat} {K K':HK} {L L':aE}
noncomputable def tq (cs:ar):bJ:=.list (cs.map λ(c:Nat)=>V.int c)
noncomputable def qj (ns:List Int):bJ:=.list (ns.map V.int)
def JZ (o:bJ):Prop:=∃cs:ar,o=tq cs/\cs.length=7
def JW (o:bJ):Prop:=∃ns:List Int,o=qj ns/\ns.length=15
noncomputable def cA (cs:ar) (i:Nat):Nat:=cs.getD i 0
theorem Ae {H:aj} {m:Nat} {cs:ar} {i:Nat} (hi:i<cs.length) (h:H[m]?=some (some (tq cs))):gC H (.ref m) (.int i)=some (.int (cA cs i)):=
 mY h (by rw[aQ,cA,dK,bZ hi];rfl)
theorem Dz {H:aj} {m:Nat} {ns:List Int} {i:Nat} (hi:i<ns.length) (h:H[m]?=some (some (qj ns))):gC H (.ref m) (.int i)=some (.int (ns.getD i 0)):=
 mY h (by rw[aQ,dK,bZ hi];rfl)
theorem Ev.cell {m i:Nat} {cs:ar} {a b:D} (hm:(m,Is (tq cs))∈K) (hi:i<cs.length) (ha:Ev n K L a (.ref m)) (hb:Ev n K L b (.int i)):Ev n K L (aH a b) (.int (cA cs i)):=.idx ha hb λH h=>Ae hi (h.is hm)
theorem Fe {x:Int} {i:Nat} (hn:∀p∈K,p.1≠2/\p.1≠3) (h1:L.lookup 1=some (.ref 2)) (h2:L.lookup 2=some (.ref 3)) (h7:L.lookup 7=some (.int i)) (h8:L.lookup 8=some (.int x)):
  SK n ((2,JZ)::(3,JW)::K) L F_ ((2,JZ)::(3,JW)::K) L:=by
 have m7:=d_ i (show 0<7 by decide)
 have m15:=d_ i (show 0<15 by decide)
 have a1:SK n ((2,JZ)::(3,JW)::K) L (lr uv (aa 1) (aB fw (aa 7) (dC (.int 7))) (aB fw (aa 8) (dC (.int 1000003)))) ((2,JZ)::(3,JW)::K) L:=SK.ex λob ⟨cs,e,hc⟩=>by
  subst e
  have nn:0<=Int.fmod x 1000003:=Int.fmod_nonneg_of_pos x (by decide)
  refine SK.wk (SK.BP (m:=2) (ob':=tq (cs.set (i %7) (cA cs (i %7)+(Int.fmod x 1000003).toNat))) (x:=.ref 2) (y:=.int ((i %7:Nat):Int)) (w:=.int (cA cs (i %7))) (v:=.int (Int.fmod x 1000003)) (z:=.int ((cA cs (i %7)+(Int.fmod x 1000003).toNat:Nat):Int)) (.var h1) (.bin (.var h7) .con (eG i 7 (by decide))) (λH hH=>Ae (by omega) hH) (.bin (.var h8) .con (tN (b:=λU b=>b≠0) (by decide))) ?_ (λp hp=>?_) λH hH=>?_) λH h=>h.JI λo e=>⟨_,e,by rw[List.length_set];exact hc⟩
  ·show some (V.int ((cA cs (i %7):Int)+Int.fmod x 1000003))=_
   congr 2;exact acr nn
  ·rcases aC.1 hp with rfl|hp
   ·exact(by decide:3≠2)
   ·exact(hn p hp).1
  ·rw[sf hH (by rw[aD];omega)]
   unfold tq
   rw[List.map_set]
 have a2:SK n ((3,JW)::(2,JZ)::K) L (lr uv (aa 2) (aB fw (aa 7) (dC (.int 15))) (aa 8)) ((3,JW)::(2,JZ)::K) L:=SK.ex λob ⟨ns,e,hc⟩=>by
  subst e
  refine SK.wk (SK.BP (m:=3) (ob':=qj (ns.set (i %15) (ns.getD (i %15) 0+x))) (x:=.ref 3) (y:=.int ((i %15:Nat):Int)) (w:=.int (ns.getD (i %15) 0)) (v:=.int x) (z:=.int (ns.getD (i %15) 0+x)) (.var h2) (.bin (.var h7) .con (eG i 15 (by decide))) (λH hH=>Dz (by omega) hH) (.var h8) rfl (λp hp=>?_) λH hH=>?_) λH h=>h.JI λo e=>⟨_,e,by rw[List.length_set];exact hc⟩
  ·rcases aC.1 hp with rfl|hp
   ·exact(by decide:2≠3)
   ·exact(hn p hp).2
  ·rw[sf hH (by rw[aD];omega)]
   unfold qj
   rw[List.map_set]
 exact SK.seq a1 (SK.seq (SK.pm a2 pU pU) Sn.fin.k)
noncomputable def xL (xs:List Int):aE:=[(6,.ref 6),(5,.ref 5),(4,.lst []),(3,.ref 4),(2,.ref 3),(1,.ref 2),(0,.lst (xs.map .int))]
noncomputable def K0:HK:=[(4,Is (.list [])),(6,eO),(5,mF []),(1,Is (.gb true))]
theorem Ij (xs:List Int):∃H loc,ba (bx (ao (ah 1) (ao (ah 2) (ao (ah 3) (ao (ah 4) (ao (ah 5) (ao (ah 6) bf))))))) (bb (ae (iS (ae (dC (.int 34)) (ae (dC (.int 13)) (ae (dC (.int 9)) (ae (dC (.int 66)) (ae (dC (.int 1435)) (ae (dC (.int 812)) (ae (dC (.int 0)) az)))))))) (ae (CZ (ae (dC (.int 1)) (ae (dC (.int 16)) az))) (ae (iS az) (ae (eL az) (ae (iS az) (ae qs az)))))))
   ⟨[some .tab,some (.gb true)],[V.lst (xs.map .int)].map some++List.replicate 55 .none⟩=some (.next,⟨H,loc⟩)/\bP ((2,JZ)::(3,JW)::K0) H/\Loc 56 (xL xs) loc:=by
 refine⟨[some .tab,some (.gb true),some (tq [34,13,9,66,1435,812,0]),some (qj [1,2,3,4,5,6,7,8,9,10,11,12,13,14,15]),some (.list []),some (.list []),some (.dict [] [])],[some (.lst (xs.map .int)),some (.ref 2),some (.ref 3),some (.ref 4),some (.lst []),some (.ref 5),some (.ref 6)]++List.replicate 49 .none,by kernel_rfl,λp hp=>?_,rfl,λk v e=>?_⟩
 ·simp only[K0,aC,bh,or_false]at hp
  rcases hp with rfl|rfl|rfl|rfl|rfl|rfl
  ·exact⟨_,rfl,_,rfl,rfl⟩
  ·exact⟨_,rfl,_,rfl,rfl⟩
  ·exact⟨_,rfl,rfl⟩
  ·exact⟨_,rfl,[],rfl,gy,nofun⟩
  ·exact⟨_,rfl,[],rfl,rfl⟩
  ·exact⟨_,rfl,rfl⟩
 ·match k,e with
  |0,e|1,e|2,e|3,e|4,e|5,e|6,e=>exact e▸rfl
  |k+7,e=>cases e
theorem Aj {l:aq} {i:Nat} {x:V} (h:(ny l)[i]?=some x):i<l.length/\x= .tup [.int (i:Int),l.getD i .none]:=by
 unfold ny at h
 rw[aQ,aO]at h
 obtain⟨j,hj,rfl⟩:=h
 obtain⟨hi,rfl⟩:=bO.1 hj
 rw[ez]at hi
 rw[qP];exact⟨hi,rfl⟩
theorem Jz (xs:List Int):SK 56 ((2,JZ)::(3,JW)::K0) (xL xs) (gJ (nA (cS (aa 0) ti (dP (dC (.int 60))))) (bx (ao (ah 7) (ao (ah 8) bf))) F_) ((2,JZ)::(3,JW)::K0) (xL xs):=by
 refine SK.loop (l:=ny ((xs.map V.int).take 60)) (.enum (l:=(xs.map V.int).take 60) (.slice (x:=.lst (xs.map .int)) (i:=none) (j:=some ((60:Nat):Int)) (.var rfl) .p0 (.p .con) λH U=>?_)) (λU=>xL xs) (λU=>(2,JZ)::(3,JW)::K0) (λk v h=>h) rfl λi x hx=>?_
 ·show some (V.lst (sl (xs.map .int) none (some ((60:Nat):Int))))=_
  rw[yq]
 ·obtain⟨hi,rfl⟩:=Aj hx
  have :∃y:Int,((xs.map V.int).take 60).getD i .none= .int y:=by
   rw[<-List.map_take]at hi |-
   rw[aD]at hi
   rw[dK,aQ,bZ hi];exact⟨_,rfl⟩
  obtain⟨y,e⟩:=this
  rw[e]
  refine⟨_,Tg.two (by decide) (by decide),SK.mono (Fe (λp hp=>?_) rfl rfl rfl rfl) λk v h=>?_⟩
  ·simp only[K0,aC,bh,or_false]at hp
   rcases hp with rfl|rfl|rfl|rfl<;>exact⟨by decide,by decide⟩
  ·match k,h with
   |0,h|1,h|2,h|3,h|4,h|5,h|6,h=>exact h
   |k+7,h=>cases h
def jG (cs:ar):Nat:=3+cA cs 6/96 %2
def zt (cs:ar):Nat:=cA cs 6/192
theorem Qa {cs:ar} (hc:cs.length=7) (hm:(2,Is (tq cs))∈K) (h1:L.lookup 1=some (.ref 2)):Sn 56 K L (gD 9 10 (bb (ae (aB addW (dC (.int 3)) (aB fw (aB fL (aH (aa 1) (dC (.int 6))) (dC (.int 96))) (dC (.int 2)))) (ae (aB fL (aH (aa 1) (dC (.int 6))) (dC (.int 192))) az)))) ((9,.int (jG cs))::(10,.int (zt cs))::L):=
 have c6:Ev 56 K L (aH (aa 1) (dC (.int 6))) (.int (cA cs 6)):=.cell (i:=6) hm (by exact WB hc) (.var h1) .con
 .swap (by decide) (by decide) (.tup (.and (.bin (y:=.int ((cA cs 6/96 %2:Nat):Int)) .con (.dm 96 2 c6 (by decide) (by decide) (by decide)) rfl) (.and (.bin c6 .con (kH _ 192 (by decide) (by decide))) .no)) (ay rfl))
end
section
variable{n:Nat} {K K':HK} {L L':aE}
theorem Cc {m:Nat} {Lc:aE} {da:DA} {de:D}:∀(zs:List (V×V)) (acc:aq),(∀z∈zs,Bd m K Lc da dp de z.1 true z.2)->acc.length+zs.length<=16777216->∀H loc,bP K H->Loc m Lc loc->
  ∃H' a6,gh da dp (aK de) (zs.map (·.1)) (.list acc) ⟨H,loc⟩=some (.list (acc++zs.map (·.2)),⟨H',a6⟩)/\bP K H':=by
 intro xx
 induction xx with
 |nil=>
  intro acc _ _ H loc hh hl
  exact⟨H,loc,by rw[fB,fB,eh];rfl,hh⟩
 |cons z zs ih=>
  intro acc hb hn H loc hh hl
  rw[bQ]at hn
  refine v5 (hb z (.head _)) λX t fr U el=>?_
  refine x3 (t H loc _ hl) λl1 e1 h1=>?_
  refine x3 (el rfl H _ hh h1) λH2 e2 tG=>?_
  refine x4 (ih (acc++[z.2]) (λy hy=>hb y (.tail _ hy)) (by rw[bH,eA];exact Wm hn) H2 _ tG (h1.mono λj v e=>oO fr e)) λH3 l3 e3 Fs=>?_
  refine⟨H3,l3,aR (x:=da z.1 ⟨H,loc⟩) e1 (aR (x:=dp _) rfl (aR (x:=aK de (.list acc) _) (a:=(.list (acc++[z.2]),⟨H2,l1⟩)) (D0 (show acc.length<16777216 by exact Wl hn) (gH e2)) (e3.trans ?_))),Fs⟩
  rw[eV];rfl
theorem Ev.Od {di:DI} {js:List (Option Nat)} {da:DA} {de:D} (zs:List (V×V)) (hi:mI n K L di (zs.map (·.1))) (hn:zs.length<=16777216) (hb:∀z∈zs,Bd js.length K (jL js L) da dp de z.1 true z.2):Ev n K L (fS (a9 di js da dp (aK de) (.list []))) (.lst (zs.map (·.2))):=λH loc hh hl=>
 (hi H loc hh hl).elim λH₁ w=>(Cc zs [] hb ((cc _).symm▸hn) H₁ (qk js loc) w.2 (zw hl)).imp λbT cX=>cX.elim λg_ cX=>⟨(ak (Option.map _) (aR w.1 (ak (Option.map _) cX.1))).trans rfl,cX.2⟩
set_option tactic.hygienic true in
theorem Bd.two {i j:Nat} {a b:V} {de:D} {g:V} (hi:i<n) (hj:j<n) (fi:L.lookup i=none) (fj:L.lookup j=none) (h:Ev n K ((j,b)::(i,a)::L) de g):Bd n K L (bx (ao (ah i) (ao (ah j) bf))) dp de (.tup [a,b]) true g:=
 have f:∀k,(([(j,b),(i,a)]:aE).lookup k).isSome=true->L.lookup k=none:=λk hk=>by
  rw[bG]at hk
  split at hk
  ·rename_i q;rw[eq_of_beq q];exact fj
  ·rw[bG]at hk
   split at hk
   ·rename_i q;rw[eq_of_beq q];exact fi
   ·cases hk
 ⟨[(j,b),(i,a)],.two hi hj,f,.yes,λU=>h⟩
theorem LY {k:ar} {v:Int} (h0:0<=v) (h3:v<=3) (hk:k.length<=10):h_ (.str k) (.int v)=some (.str (List.replicate v.toNat k).flatten):=by
 have m:k.length*v.toNat<=10*3:=Nat.mul_le_mul hk (by exact aea h3)
 have e:D9 (.str k) (.int v)=some (.str (List.replicate v.toNat k).flatten):=aR (x:=nP (.str k)) rfl (aR (x:=mE (.int v)) rfl (ag ⟨by omega,by omega,by exact ad9 m⟩))
 show Option.or (y_ (.str k) (.int v)) (D9 (.str k) (.int v))=_
 rw[show y_ (.str k) (.int v)=none from rfl,e];rfl
theorem vj (cl:Cl):cQ (j6 cl) (pC cl)=cl.map λp=>.tup [.str p.1,.int p.2]:=by
 unfold cQ j6 pC
 rw[List.zip_map',br];rfl
theorem Ua {m:M} {k:Int} {cl:Cl} (hc:eN 10 cl) (cp:∀p∈cl,(0<=p.2/\p.2<=3)/\p.1.length<=10) (h1:L.lookup 1=some (ent m k cl)):Ev n K L (fS HE) (.lst ((U2 cl).map .str)):=by
 have :=Ev.Od (n:=n) (K:=K) (L:=L) (di:=kB (aH (aa 1) (dC (.int 4)))) (js:=[none,none,none]) (da:=bx (ao (ah 1) (ao (ah 2) bf))) (de:=aB h_ (aa 1) (aa 2)) (cl.map λp=>(.tup [.str p.1,.int p.2],.str (List.replicate p.2.toNat p.1).flatten))
  (by rw[br];exact vj cl▸.items (.idx (.var h1) .con λH U=>rfl) (tZ cl) hc.short) (by rw[aD];have :=hc.le;exact ad8 this) λz hz=>by
   obtain⟨p,hp,rfl⟩:=aY.1 hz
   have c:=cp p hp
   exact .two (by decide) (by decide) rfl rfl (.bin (.var rfl) (.var rfl) (LY c.1.1 c.1.2 c.2))
 rw[br]at this
 rw[U2,br];exact this
theorem p8:∀l:aG,cL [] l=l.flatten
 |[]=>rfl
 |[a]=>(eh a).symm
 |a::b::l=>by
  have :=p8 (b::l)
  rw[qM,<-this]
  simp only[cL,eh]
theorem Dx {l:aG} {k:ar} {a:D} (ha:Ev n K L a (.lst (l.map .str))) (hl:(l.map List.length).sum+l.length*k.length<=1000):Ev n K L (bC nH k_ (dC (.str k)) (ae a az)) (.str (cL k l)):=
 .sP (s:=k) .con (.and ha .no) λH U=>by
  rw[Dt]
  exact(ak (Option.map _) (aR (x:=b8 H (.lst _)) rfl (aR (Dj _) (ag (by exact ad7 hl))))).trans rfl
theorem Jh (l:aG):l.flatten.length=(l.map List.length).sum:=List.length_flatten
def ic (m:M) (k:Int):V:=.tup [.tup [.int m.1,.int m.2.1,.int m.2.2,.int (dg m)],.lst ((word m).map λc=>.str [c]),.int k]
theorem zV:AllP (λm=>∀k,jl 7 (ic m k)=true/\J1 (ic m k) (ic m k)=((k==k)&&true)) PQ:=by
 rw[GL]
 repeat' first|exact True.intro|refine And.intro ?_ ?_
 all_goals exact λk=>⟨by kernel_rfl,by kernel_rfl⟩
theorem Er {m m':M} (hm:m∈PQ) (JP:m'∈PQ) (k k':Int) {H:aj}:mG H (.lst [ic m k,ic m' k']) (.lst [ic m k,ic m' k'])=some false:=by
 have t:=zV.of m hm k
 have t':=zV.of m' JP k'
 have o:jo 7 [ic m k,ic m' k']=true:=by rw[d9,d9,t.1,t'.1];rfl
 refine zN ((LX o o).trans ?_)
 rw[j7,j7,t.2,t'.2,beq_self_eq_true,beq_self_eq_true];rfl
theorem Hx {m:M} {e:Ce} (hm:m∈PQ) (o:EOk e m) (hc:eN 10 e.2.2) (h1:L.lookup 1=some (ent m (dg m) e.2.2)):Ev n K L Hu (ic m (qf e.2.2)):=by
 have d:=wZ hm
 have fl:(U2 e.2.2).flatten.length=dg m:=by rw[<-(p5 _).length_eq,o.so,d7]
 refine .tup (.and (.slice (i:=none) (j:=some 4) (.var h1) .p0 (.p .con) λH U=>(by kernel_rfl:kr H (ent m (dg m) e.2.2) none (some 4)=some (.tup [.int m.1,.int m.2.1,.int m.2.2,.int (dg m)]))) (.and (.call (.and (Dx (k:=[]) (Ua hc o.cp h1) (by rw[<-Jh,i8];exact ad6 d fl)) .no) λH U=>?_) (.and (.cM (.and (.idx (.var h1) .con λH U=>rfl) .no) (count_is e.2.2)) .no))) (ay rfl)
 refine aR (x:=lQ _) rfl (aR (x:=nP _) rfl ((ag ?_).trans ?_))
 ·rw[p8];exact ad5 d fl
 ·rw[p8,o.so]
end
section
variable{n:Nat} {K K':HK} {L L':aE}
def pV (p:M×M):V:=.tup [p.1.v,p.2.v]
def dD (cs:ar) (i:Nat):Nat:=if cA cs i %3=0 then 3 else 2
def lD (cs:ar) (i:Nat):List M:=dS (dD cs i)
noncomputable def UO (l:List M) (k:Nat):M:=l.getD (k %l.length) (0,0,0)
def drawn (cs:ar) (i:Nat):M×M:=(UO (lD cs i) (cA cs i/3),UO (lD cs i) (cA cs i/3/(lD cs i).length))
theorem GC (cs:ar) (i:Nat):dD cs i=2\/dD cs i=3:=by unfold dD;split<;>simp
theorem Hh (cs:ar) (i:Nat):0<(lD cs i).length/\(lD cs i).length<=10:=by
 unfold lD
 rcases GC cs i with e|e<;>rw[e]<;>decide
theorem yE {l:List M} (h:0<l.length) (k:Nat):l[k %l.length]?=some (UO l k):=by
 rw[UO,dK,bZ (d_ _ h)];rfl
theorem t7 {cs:ar} {i:Nat} (k:Nat):UO (lD cs i) k∈PQ/\dg (UO (lD cs i) k)=dD cs i:=by
 have :=eD.1 (bI (yE (Hh cs i).1 k))
 refine⟨bF.2 ?_,this⟩
 rw[eD,eD,this];exact GC cs i
noncomputable def KP (cs:ar) (ns:List Int):HK:=[(2,Is (tq cs)),(3,Is (qj ns)),(4,Is (.list [])),(6,eO),(1,Is (.gb true))]
def lP (cs:ar) (mw:Nat) (dr:eY):aE:=[(10,.int (zt cs)),(9,.int (jG cs)),(6,.ref 6),(5,.ref mw),(4,.lst (dr.map pV)),(3,.ref 4),(2,.ref 3),(1,.ref 2)]
theorem Bo {l:List M} {k:Nat} (h:L.lookup k=some (.lst (l.map M.v))):Ev n K L (a5 iN (ae (aa k) az)) (.int l.length):=.call (.and (.var h) .no) λH U=>by
 rw[rZ];show some (V.int ((l.map M.v).length))=_;rw[aD]
def qe (cs:ar) (i:Nat):Nat:=cA cs (i+3)
def wh (cs:ar) (i:Nat):Nat:=cA cs (i+3)/7
def y0 (m:M) (w:Nat):Cl:=((gZ m w).foldl wg e0).2.2
noncomputable def blanks:ar:=[9,160,5760,8195,8239,8287,12288]
theorem JB (k:Nat):(blanks.getD (k %7) 0==32)=false/\blanks.getD (k %7) 0<1114112:=by
 have :=d_ k (show 0<7 by decide)
 have a:blanks.all (λc=>!(c==32)&&Nat.blt c 1114112)=true:=rfl
 have m:blanks.getD (k %7) 0∈blanks:=by
  rw[dK,bZ (show k %7<blanks.length from this)];exact md _
 have :=aI.1 a _ m
 simpa using this
theorem Hy {m:M} {w:Nat} (hm:m∈PQ) (h1:L.lookup 1=some m.v) (h2:L.lookup 2=some (.str (cy m w))):Ev n K L Hv (ic m (qf (y0 m w))):=by
 have d:=wZ hm
 refine .tup (.and (.bin (.var h1) (.tup (.and (rR h1) .no) (ay rfl)) (by kernel_rfl:addW m.v (.tup [.int (dg m)])=some (.tup [.int m.1,.int m.2.1,.int m.2.2,.int (dg m)]))) (.and (.call (.and (.cM (.and (.var h1) .no) (fV (iQ.v m) (by exact PM d))) .no) λH U=>rfl) (.and (.bin (x:=.int (cy m w).length) (y:=.int 1) (.call (.and (.var h2) .no) λH U=>rfl) .con ?_) .no))) (ay rfl)
 rw[y0,(yx hm w).2];rfl
theorem EI {cs:ar} {ns:List Int} (hc:cs.length=7) {i:Nat} (hi:i<=2) {mw:Nat} {dr:eY} (hd:dr.length<=10) (H:aj) (loc:c8) (hh:bP ((mw,mF dr)::KP cs ns) H) (hl:Loc 56 ((7,.int i)::lP cs mw dr) loc):
  ∃FC H' a6,CA ⟨H,loc⟩=some (.next,⟨H',a6⟩)/\(∀p∈KP cs ns,p.1≠FC)/\bP ((FC,mF (dr++[drawn cs i]))::KP cs ns) H'/\Loc 56 (lP cs FC (dr++[drawn cs i])) a6:=by
 have ll:=Hh cs i
 have cell:∀{L:aE} {j:Nat} {b:D},L.lookup 1=some (.ref 2)->j<7->Ev 56 ((mw,mF dr)::KP cs ns) L b (.int j)->Ev 56 ((mw,mF dr)::KP cs ns) L (aH (aa 1) b) (.int (cA cs j)):=λh hj hb=>.cell (.tail _ (.head _)) (by exact ad4 hj hc) (.var h) hb
 have c3:∀{L:aE},L.lookup 1=some (.ref 2)->L.lookup 7=some (.int i)->Ev 56 ((mw,mF dr)::KP cs ns) L (aB fL (aH (aa 1) (aa 7)) (dC (.int 3))) (.int ((cA cs i/3:Nat):Int)):=λh h7=>.bin (cell h (by exact WA hi) (.var h7)) .con (kH _ 3 (by decide) (by decide))
 have ci3:∀{L:aE},L.lookup 1=some (.ref 2)->L.lookup 7=some (.int i)->Ev 56 ((mw,mF dr)::KP cs ns) L (aH (aa 1) (aB addW (aa 7) (dC (.int 3)))) (.int (qe cs i)):=λh h7=>cell (j:=i+3) h (by exact ad3 hi) (.bin (x:=.int i) (y:=.int 3) (.var h7) .con rfl)
 have s1:Sn 56 ((mw,mF dr)::KP cs ns) ((7,.int i)::lP cs mw dr) (ba (ah 11) (aN cq (ae (lO (nF (aB fw (aH (aa 1) (aa 7)) (dC (.int 3)))) (dC (.int 2)) (dC (.int 3))) az))) _:=.fH (by decide) (.cM (.and (.ite (c:=((cA cs i %3:Nat):Int) !=0) (v:=.int (dD cs i)) (.Fm (x:=.int ((cA cs i %3:Nat):Int)) (.bin (cell rfl (by exact WA hi) (.var rfl)) .con (eG _ 3 (by decide))) λH=>rfl) (λh=>by
  have h:=bne_iff_ne.1 h
  rw[dD,af (by omega)];exact .con) λh=>by
  have h:=bne_eq_false_iff_eq.1 h
  rw[dD,ag (by omega)];exact .con) .no) (Iy (dD cs i) (by have :=GC cs i;exact ad2 this)))
 refine x5 (s1 H loc hh hl) λH1 l1 e1 h1 pN=>?_
 have s2:Sn 56 ((mw,mF dr)::KP cs ns) ((11,.lst ((lD cs i).map M.v))::(7,.int i)::lP cs mw dr) (ba (ah 12) (bb (ae (aH (aa 11) (aB fw (aB fL (aH (aa 1) (aa 7)) (dC (.int 3))) (a5 iN (ae (aa 11) az)))) (ae (aH (aa 11) (aB fw (aB fL (aB fL (aH (aa 1) (aa 7)) (dC (.int 3))) (a5 iN (ae (aa 11) az))) (a5 iN (ae (aa 11) az)))) az)))) ((12,pV (drawn cs i))::_):=
  .fH (by decide) (.tup (.and (.idx (x:=.lst ((lD cs i).map M.v)) (y:=.int ((cA cs i/3 %(lD cs i).length:Nat):Int)) (.var rfl) (.bin (c3 rfl rfl) (Bo rfl) (eG _ _ ll.1)) λH U=>yv (by rw[aQ,yE ll.1];rfl)) (.and (.idx (x:=.lst ((lD cs i).map M.v)) (y:=.int ((cA cs i/3/(lD cs i).length %(lD cs i).length:Nat):Int)) (.var rfl) (.bin (.bin (c3 rfl rfl) (Bo rfl) (kH _ _ ll.1 (by omega))) (Bo rfl) (eG _ _ ll.1)) λH U=>yv (by rw[aQ,yE ll.1];rfl)) .no)) (ay rfl))
 refine x5 (s2 H1 l1 h1 pN) λH2 l2 e2 h2 nB=>?_
 have p1:(drawn cs i).1∈PQ/\dg (drawn cs i).1=dD cs i:=t7 _
 have p2:(drawn cs i).2∈PQ/\dg (drawn cs i).2=dD cs i:=t7 _
 generalize drawn cs i=p at p1 p2 nB e2 |-
 have g1:=yx p1.1 (qe cs i)
 have g2:=yx p2.1 (wh cs i)
 have f1:=(ju p1.1 (qe cs i))
 have f2:=(ju p2.1 (wh cs i))
 have t1:=pZ p.1 (qe cs i)
 have t2:=pZ p.2 (wh cs i)
 have s3:Sn 56 ((mw,mF dr)::KP cs ns) ((12,pV p)::(11,.lst ((lD cs i).map M.v))::(7,.int i)::lP cs mw dr) (ba (ah 13) (eL (ae (aN fF (ae (aH (aa 12) (dC (.int 0))) (ae (aH (aa 1) (aB addW (aa 7) (dC (.int 3)))) az))) (ae (aN fF (ae (aH (aa 12) (dC (.int 1))) (ae (aB fL (aH (aa 1) (aB addW (aa 7) (dC (.int 3)))) (dC (.int 7))) az))) az)))) ((13,.lst ([cy p.1 (qe cs i),cy p.2 (wh cs i)].map .str))::_):=
  .fH (by decide) (.lst (.and (.cM (.and (.idx (x:=pV p) (y:=.int 0) (.var rfl) .con λH U=>rfl) (.and (ci3 rfl rfl) .no)) (zS p1.1 (qe cs i))) (.and (.cM (.and (.idx (x:=pV p) (y:=.int 1) (.var rfl) .con λH U=>rfl) (.and (.bin (ci3 rfl rfl) .con (kH _ 7 (by decide) (by decide))) .no)) (zS p2.1 (wh cs i))) .no)) (ay rfl))
 refine x5 (s3 H2 l2 h2 nB) λH3 l3 e3 h3 wi=>?_
 have s4:∀{L:aE},L.lookup 13=some (.lst ([cy p.1 (qe cs i),cy p.2 (wh cs i)].map .str))->L.lookup 3=some (.ref 4)->Sn 56 ((mw,mF dr)::KP cs ns) L (ba (ah 14) (aN jD (ae (bC nH k_ (dC (.str [32])) (ae (aa 13) az)) (ae (aa 3) az)))) ((14,.lst [ent p.1 (dg p.1) (y0 p.1 (qe cs i)),ent p.2 (dg p.2) (y0 p.2 (wh cs i))])::L):=λOQ h3=>by
  have r:=Lm (K:=(mw,mF dr)::KP cs ns) (o:=4) (t:=cy p.1 (qe cs i)++[32]++cy p.2 (wh cs i)) (.tail _ (.tail _ (.tail _ (.head _)))) (λc hc=>by
   rcases bF.1 hc with q|q
   ·rcases bF.1 q with q|q
    ·exact xb p1.1 _ c q
    ·rw[a7]at q;subst q;exact⟨by decide,by decide+kernel⟩
   ·exact xb p2.1 _ c q) (by have :=f1.JS;have :=f2.JS;rw[bH,bH,eA];exact ad1 t1 ‹_› t2 this)
  rw[P7 p1.1 p2.1]at r
  refine .fH (by decide) (.cM (.and (Dx (k:=[32]) (l:=[cy p.1 (qe cs i),cy p.2 (wh cs i)]) (.var OQ) ?_) (.and (.var h3) .no)) ?_)
  ·have :=f1.JS;have :=f2.JS
   simp only[bo,fB,n9,List.sum_nil,bQ,i8];omega
  ·rw[show cL [32] [cy p.1 (qe cs i),cy p.2 (wh cs i)]=cy p.1 (qe cs i)++[32]++cy p.2 (wh cs i)from rfl];exact r
 refine x5 (s4 rfl rfl H3 l3 h3 wi) λH4 l4 e4 h4 Cs=>?_
 have s5:∀{L:aE},L.lookup 14=some (.lst [ent p.1 (dg p.1) (y0 p.1 (qe cs i)),ent p.2 (dg p.2) (y0 p.2 (wh cs i))])->Sn 56 ((mw,mF dr)::KP cs ns) L (ba (ah 16) (fS HD)) ((16,.lst [ic p.1 (qf (y0 p.1 (qe cs i))),ic p.2 (qf (y0 p.2 (wh cs i)))])::L):=λVf=>
  .fH (by decide) (Ev.zI (js:=[none,none,none,none]) (k:=1) [(ent p.1 (dg p.1) (y0 p.1 (qe cs i)),ic p.1 (qf (y0 p.1 (qe cs i)))),(ent p.2 (dg p.2) (y0 p.2 (wh cs i)),ic p.2 (qf (y0 p.2 (wh cs i))))] (.iter (.var Vf) rfl) (ay rfl) (by decide) rfl λz hz=>by
   simp only[aC,bh,or_false]at hz
   rcases hz with rfl|rfl
   ·exact Hx p1.1 f1.e g1.1 rfl
   ·exact Hx p2.1 f2.e g2.1 rfl)
 refine x5 (s5 rfl H4 l4 h4 Cs) λH5 l5 e5 h5 U7=>?_
 have bl:=JB (qe cs i)
 have s6:∀{L:aE},L.lookup 1=some (.ref 2)->L.lookup 7=some (.int i)->Sn 56 ((mw,mF dr)::KP cs ns) L (ba (ah 17) (a5 A9 (ae (aH (bb (ae (dC (.int 9)) (ae (dC (.int 160)) (ae (dC (.int 5760)) (ae (dC (.int 8195)) (ae (dC (.int 8239)) (ae (dC (.int 8287)) (ae (dC (.int 12288)) az)))))))) (aB fw (aH (aa 1) (aB addW (aa 7) (dC (.int 3)))) (dC (.int 7)))) az))) ((17,.str [blanks.getD (qe cs i %7) 0])::L):=λh1 h7=>
  .fH (by decide) (.call (vs:=[.int (blanks.getD (qe cs i %7) 0)]) (.and (.idx (x:=.tup (blanks.map λ(c:Nat)=>V.int c)) (y:=.int ((qe cs i %7:Nat):Int)) (.tup (.and .con (.and .con (.and .con (.and .con (.and .con (.and .con (.and .con .no))))))) (ay rfl)) (.bin (ci3 h1 h7) .con (eG _ 7 (by decide))) λH U=>o_ (by
   rw[aQ,dK,bZ (show qe cs i %7<blanks.length from d_ _ (by decide))];rfl)) .no) λH U=>by rw[BH,ag (by omega),j3])
 refine x5 (s6 rfl rfl H5 l5 h5 U7) λH6 l6 e6 h6 U6=>?_
 have s7:∀{L:aE},L.lookup 16=some (.lst [ic p.1 (qf (y0 p.1 (qe cs i))),ic p.2 (qf (y0 p.2 (wh cs i)))])->L.lookup 17=some (.str [blanks.getD (qe cs i %7) 0])->L.lookup 12=some (pV p)->L.lookup 13=some (.lst ([cy p.1 (qe cs i),cy p.2 (wh cs i)].map .str))->SK 56 ((mw,mF dr)::KP cs ns) L (j9 (iV (aS mG (aa 16) (fS HF)) (iV (aS fy (aN fe (ae (aa 17) az)) (dC (.bool false))) tm)) (ax (eB (dC (.bool false))) aT) aT) ((mw,mF dr)::KP cs ns) L:=λh16 h17 rD OQ=>
  SK.ite (c:=false) (.or (c:=false) (.cmp (.var h16) (Ev.Od (js:=[none,none,none,none,none,none,none]) [(.tup [p.1.v,.str (cy p.1 (qe cs i))],ic p.1 (qf (y0 p.1 (qe cs i)))),(.tup [p.2.v,.str (cy p.2 (wh cs i))],ic p.2 (qf (y0 p.2 (wh cs i))))] (.zip (p:=[p.1.v,p.2.v]) (q:=[cy p.1 (qe cs i),cy p.2 (wh cs i)].map .str) (.and (.var rD) (.and (.var OQ) .no)) rfl rfl) (ay rfl) λz hz=>by
   simp only[aC,bh,or_false]at hz
   rcases hz with rfl|rfl
   ·exact .two (by decide) (by decide) rfl rfl (Hy p1.1 rfl rfl)
   ·exact .two (by decide) (by decide) rfl rfl (Hy p2.1 rfl rfl)) λH U=>Er p1.1 p2.1 _ _) λU=>.or (c:=false) (.cmp (x:=.bool (blanks.getD (qe cs i %7) 0==32)) (y:=.bool false) (.cM (.and (.var h17) .no) (HH _ bl.2)) .con λH U=>by rw[bl.1];rfl) λU=>.or0) nofun λU=>Sn.fin.k
 refine x5 (s7 rfl rfl rfl rfl H6 l6 h6 U6) λH7 l7 e7 h7 hl7=>?_
 have s8:∀{L:aE},L.lookup 4=some (.lst (dr.map pV))->L.lookup 12=some (pV p)->Ev 56 ((mw,mF dr)::KP cs ns) L (jr lG (aa 4) (eL (ae (aa 12) az))) (.lst (dr.map pV++[pV p])):=λh4 rD=>.KD (.var h4) (.lst (.and (.var rD) .no) (ay rfl)) λH U=>Aq (by rw[aD,eA];exact ad0 hd)
 refine x3 (s8 rfl rfl H7 l7 h7 hl7) λH8 e8 h8=>?_
 obtain⟨ob,⟨vs,eo,hw⟩,hx⟩:=h8.ex
 subst eo
 have s9:∀{L:aE} {v:V},L.lookup 14=some v->Ev 56 ((mw,Is (.list vs))::KP cs ns) L (eL (ae (aa 14) az)) (.lst [v]):=λh=>.lst (.and (.var h) .no) (ay rfl)
 refine x3 (s9 rfl H8 l7 hx hl7) λH9 e9 h9=>?_
 have v5:aa 5 ⟨H8,l7⟩=some (.ref mw,⟨H8,l7⟩):=gH (ak Option.join (hl7.2 5 _ rfl))
 have wl:=hw.len
 generalize hv:V.lst [ent p.1 (dg p.1) (y0 p.1 (qe cs i)),ent p.2 (dg p.2) (y0 p.2 (wh cs i))]=v at e9
 have eM:w6 lG (aa 5) (eL (ae (aa 14) az)) ⟨H8,l7⟩=some (.ref H9.length,⟨H9++[some (.list (vs++[v]))],l7⟩):=by
  have ea:lG H9 (.ref mw) (.lst [v])=some (vs++[v]):=aR (x:=b8 H9 (.ref mw)) (e_ h9.at) (aR (x:=b8 H9 (.lst [v])) rfl (ag (by rw[eA];exact adZ wl hd)))
  exact aR v5 (aR e9 (gH ea))
 have eS:gD 4 5 (bb (ae (jr lG (aa 4) (eL (ae (aa 12) az))) (ae (w6 lG (aa 5) (eL (ae (aa 14) az))) az))) ⟨H7,l7⟩=some (.next,⟨H9++[some (.list (vs++[v]))],(l7.set 5 (some (.ref H9.length))).set 4 (some (.lst (dr.map pV++[pV p])))⟩):=
  aR (aR (aR e8 (aR (aR eM rfl) rfl)) rfl) rfl
 refine⟨H9.length,_,_,aR e1 (aR e2 (aR e3 (aR e4 (aR e5 (aR e6 (aR e7 (aR eS rfl))))))),h9.drop.ne (aF _),(h9.drop.new _).JI λo e=>⟨_,e,hw.snoc ⟨_,_,_,_,hv.symm,g1.1,g2.1⟩⟩,((hl7.set 5 _ (by decide)).set 4 _ (by decide)).sub (.c rfl (.c rfl (.c rfl (.c rfl (.c (show some (V.lst (dr.map pV++[pV p]))=some (.lst ((dr++[p]).map pV))by rw[cF];rfl) (.c rfl (.c rfl (.c rfl .n))))))))⟩
def th (cs:ar) (k:Nat):eY:=(List.range k).map (drawn cs)
theorem Jr (cs:ar) (k:Nat):th cs (k+1)=th cs k++[drawn cs k]:=by
 unfold th;rw[List.range_succ,cF];rfl
theorem B1 {cs:ar} {ns:List Int} (hc:cs.length=7):∀(j i:Nat),i+j<=3->∀mw H loc,(∀p∈KP cs ns,p.1≠mw)->bP ((mw,mF (th cs i))::KP cs ns) H->Loc 56 (lP cs mw (th cs i)) loc->
  ∃FC H' a6,iT (ah 7) CA ((List.range' i j).map λ(i:Nat)=>V.int i) ⟨H,loc⟩=some (.next,⟨H',a6⟩)/\(∀p∈KP cs ns,p.1≠FC)/\bP ((FC,mF (th cs (i+j)))::KP cs ns) H'/\Loc 56 (lP cs FC (th cs (i+j))) a6:=by
 intro xx
 induction xx with
 |zero=>
  intro i _ mw H loc hn hh hl
  exact⟨mw,H,loc,rfl,hn,hh,hl⟩
 |succ j ih=>
  intro i hi mw H loc hn hh hl
  obtain⟨mw1,H1,l1,e1,n1,h1,pN⟩:=EI hc (i:=i) (by exact Y64 hi) (by rw[th,aD,ez];exact adY hi) H (loc.set 7 (some (.int i))) hh (hl.set 7 _ (by decide))
  rw[<-Jr]at h1 pN
  obtain⟨mw2,H2,l2,e2,w⟩:=ih (i+1) (by exact Y35 hi) mw1 H1 l1 n1 h1 pN
  rw[show i+1+j=i+(j+1)by exact Z42]at w
  exact⟨mw2,H2,l2,j8 (st₁:=⟨H,loc.set 7 (some (.int i))⟩) rfl e1 e2,w⟩
theorem IA {cs:ar} {ns:List Int} (hc:cs.length=7) (mw:Nat) (H:aj) (loc:c8) (hn:∀p∈KP cs ns,p.1≠mw) (hh:bP ((mw,mF [])::KP cs ns) H) (hl:Loc 56 (lP cs mw []) loc):
  ∃FC H' a6,gJ (cZ (ae (aB gI (dC (.int 6)) (aa 9)) az)) (ah 7) CA ⟨H,loc⟩=some (.next,⟨H',a6⟩)/\(∀p∈KP cs ns,p.1≠FC)/\bP ((FC,mF (th cs (6-jG cs)))::KP cs ns) H'/\Loc 56 (lP cs FC (th cs (6-jG cs))) a6:=by
 have M7:jG cs=3\/jG cs=4:=by unfold jG;omega
 have r:mI 56 ((mw,mF [])::KP cs ns) (lP cs mw []) (cZ (ae (aB gI (dC (.int 6)) (aa 9)) az)) ((List.range' 0 (6-jG cs)).map λ(i:Nat)=>V.int i):=by
  have e:(List.range' 0 (6-jG cs)).map (λ(i:Nat)=>V.int i)=eZ 0 ((6:Int)-(jG cs:Nat)) 1:=by
   rcases M7 with e|e<;>rw[e]<;>kernel_rfl
  rw[e]
  refine .range (.and (.bin .con (.var rfl) rfl) .no) rfl ?_
  rcases M7 with e|e<;>rw[e]<;>kernel_rfl
 refine x3 (r H loc hh hl) λH1 e1 h1=>?_
 obtain⟨mw2,H2,l2,e2,w⟩:=B1 hc (6-jG cs) 0 (by exact adX M7) mw H1 loc hn h1 hl
 rw[cc]at w
 exact⟨mw2,H2,l2,aR e1 e2,w⟩
end
section
variable{n:Nat} {K K':HK} {L L':aE}
theorem QQ (a k:Nat):FN (.int a) (.int k)=some (.int ((a/2^k:Nat):Int)):=by
 refine(tN (b:=λU b=>0<=b) (kQ k)).trans ?_
 rw[j3,show((2:Int)^k)=((2^k:Nat):Int)from(Int.natCast_pow 2 k).symm,<-Int.ofNat_fdiv]
theorem Uc (a:Nat):Builtin.bitAnd (a:Int) 1=((a %2:Nat):Int):=by
 unfold Builtin.bitAnd
 rw[decide_eq_true (show(0:Int)<=(a:Int)by exact Wi),show decide ((0:Int)<=1)=true by decide]
 simp only[j3]
 rw[show(1:Int).toNat=1 by decide,Nat.and_one_is_mod]
noncomputable def wu:aG:=[[0,1,2],[0,2,1],[1,0,2],[1,2,0],[2,0,1],[2,1,0]]
def keysOf (o m b0 b1 b2:Nat):Ky:=(List.range m).map λi=>((((wu.getD o []).getD i 0:Nat):Int),([1,3,2]:List Int).getD i 0*(1-2*(([b0,b1,b2].getD i 0:Nat):Int)))
def kyB (ks:Ky):Bool:=Nat.ble ks.length 3&&((ks.all λp=>decide (0<=p.1)&&(decide (p.1<=2)&&(p.2 !=0&&small p.2)))&&(decide (ks.map (·.1)).Nodup&&match ks with
 |p::q::_=>p.1 !=q.1
 |_=>false))
theorem jX.of {ks:Ky} (h:kyB ks=true):jX ks:=by
 match ks,h with
 |[],h=>cases h
 |[p],h=>exact absurd (aX.1 (aX.1 (aX.1 h).2).2).2 eW
 |p::q::r,h=>
  have h:(Nat.ble (p::q::r).length 3&&(((p::q::r).all λp=>decide (0<=p.1)&&(decide (p.1<=2)&&(p.2 !=0&&small p.2)))&&(decide (((p::q::r:Ky).map (·.1)).Nodup)&&p.1 !=q.1)))=true:=h
  simp only[bp,aI,bne_iff_ne,iB,fN]at h
  exact⟨h.1,h.2.1,⟨p,.head _,q,.tail _ (.head _),h.2.2.2⟩,h.2.2.1⟩
theorem I4:((List.range 6).all λo=>[2,3].all λm=>[0,1].all λa=>[0,1].all λb=>[0,1].all λc=>kyB (keysOf o m a b c))=true:=by decide+kernel
def uu (cs:ar) (i:Nat):Nat:=cA cs 6/6/2^i %2
def wW (cs:ar):Ky:=keysOf (cA cs 6 %6) (3-cA cs 6/48 %2) (uu cs 0) (uu cs 1) (uu cs 2)
theorem BN (cs:ar) (i:Nat):uu cs i∈[0,1]:=by
 have :=d_ (cA cs 6/6/2^i) (show 0<2 by decide)
 simp only[aC,bh,or_false,uu];omega
theorem I5 (cs:ar):jX (wW cs):=by
 have a:=aI.1 I4 (cA cs 6 %6) (eF.2 (d_ _ (by decide)))
 have b:=aI.1 a (3-cA cs 6/48 %2) (by simp only[aC,bh,or_false];omega)
 exact .of (aI.1 (aI.1 (aI.1 b _ (BN cs 0)) _ (BN cs 1)) _ (BN cs 2))
theorem I_ {H:aj} {l:ar} {i:Nat} (h:i<l.length):gC H (.tup (l.map λ(i:Nat)=>V.int i)) (.int i)=some (.int (l.getD i 0)):=o_ (by rw[aQ,dK,bZ h];rfl)
def A2 (cs:ar):V:=.tup ((wu.getD (cA cs 6 %6) []).map λ(i:Nat)=>V.int i)
theorem LA (cs:ar):(wu.getD (cA cs 6 %6) []).length=3:=by
 have a:wu.all (λl=>l.length==3)=true:=rfl
 have m:wu.getD (cA cs 6 %6) []∈wu:=by
  rw[dK,bZ (show cA cs 6 %6<wu.length from d_ _ (by decide))];exact md _
 exact eq_of_beq (aI.1 a _ m)
theorem GJ {cs:ar} (hc:cs.length=7) (hm:(2,Is (tq cs))∈K) {k:Nat} (h1:L.lookup k=some (.ref 2)):Ev n K L (aH (aa k) (dC (.int 6))) (.int (cA cs 6)):=.cell (i:=6) hm (by exact WB hc) (.var h1) .con
theorem Rk {cs:ar} (hc:cs.length=7) (hm:(2,Is (tq cs))∈K) (h1:L.lookup 1=some (.ref 2)):Ev n K L (aH (bb (ae (bb (ae (dC (.int 0)) (ae (dC (.int 1)) (ae (dC (.int 2)) az)))) (ae (bb (ae (dC (.int 0)) (ae (dC (.int 2)) (ae (dC (.int 1)) az)))) (ae (bb (ae (dC (.int 1)) (ae (dC (.int 0)) (ae (dC (.int 2)) az)))) (ae (bb (ae (dC (.int 1)) (ae (dC (.int 2)) (ae (dC (.int 0)) az)))) (ae (bb (ae (dC (.int 2)) (ae (dC (.int 0)) (ae (dC (.int 1)) az)))) (ae (bb (ae (dC (.int 2)) (ae (dC (.int 1)) (ae (dC (.int 0)) az)))) az))))))) (aB fw (aH (aa 1) (dC (.int 6))) (dC (.int 6)))) (A2 cs):=by
 have t:∀{a b c:Int},Ev n K L (bb (ae (dC (.int a)) (ae (dC (.int b)) (ae (dC (.int c)) az)))) (.tup [.int a,.int b,.int c]):=.tup (.and .con (.and .con (.and .con .no))) (ay rfl)
 refine .idx (x:=.tup (wu.map λl=>.tup (l.map λ(i:Nat)=>V.int i))) (y:=.int ((cA cs 6 %6:Nat):Int)) (.tup (.and t (.and t (.and t (.and t (.and t (.and t .no)))))) (ay rfl)) (.bin (GJ hc hm h1) .con (eG _ 6 (by decide))) λH U=>o_ ?_
 rw[aQ,A2,dK,bZ (show cA cs 6 %6<wu.length from d_ _ (by decide))];rfl
theorem Pe {P:Nat->Prop} (h0:P 0) (h1:P 1) (h2:P 2) {i:Nat} (h:i<3):P i:=
 (vG.1 h).elim (λh=>(vG.1 h).elim (λh=>Nat.lt_one_iff.1 h▸h0) λh=>h▸h1) λh=>h▸h2
theorem get3 (f:Nat->Nat) {i:Nat} (h:i<3):f i=[f 0,f 1,f 2].getD i 0:=Pe (P:=λi=>f i=[f 0,f 1,f 2].getD i 0) rfl rfl rfl h
theorem Ic (i:Nat) (h:i<3):small (([1,3,2]:List Int).getD i 0)=true:=Pe (P:=λi=>small (([1,3,2]:List Int).getD i 0)=true) rfl rfl rfl h
theorem P4 {H:aj} {i:Nat} (h:i<3):gC H (.tup [.int 1,.int 3,.int 2]) (.int i)=some (.int (([1,3,2]:List Int).getD i 0)):=Pe (P:=λ(i:Nat)=>gC H (.tup [.int 1,.int 3,.int 2]) (.int i)=some (.int (([1,3,2]:List Int).getD i 0))) rfl rfl rfl h
theorem L_ {cs:ar} (hc:cs.length=7) (hm:(2,Is (tq cs))∈K) (h1:L.lookup 1=some (.ref 2)) (h19:L.lookup 19=some (A2 cs)):Ev n K L (fS HG) (rx (wW cs)):=by
 have m23:3-cA cs 6/48 %2=2\/3-cA cs 6/48 %2=3:=by omega
 have js:jL [none,none,some 1,some 19] L=[(2,.ref 2),(3,A2 cs)]:=by simp[jL,List.zipIdx,h1,h19]
 have r:mI n K L (cZ (ae (aB gI (dC (.int 3)) (aB fw (aB fL (aH (aa 1) (dC (.int 6))) (dC (.int 48))) (dC (.int 2)))) az)) ((List.range (3-cA cs 6/48 %2)).map λ(i:Nat)=>V.int i):=by
  have e:(List.range (3-cA cs 6/48 %2)).map (λ(i:Nat)=>V.int i)=eZ 0 ((3-cA cs 6/48 %2:Nat):Int) 1:=by
   rcases m23 with e|e<;>rw[e]<;>kernel_rfl
  rw[e]
  refine .range (us:=[.int ((3-cA cs 6/48 %2:Nat):Int)]) (.and (.bin (x:=.int 3) (y:=.int ((cA cs 6/48 %2:Nat):Int)) .con (.dm 48 2 (GJ hc hm h1) (by decide) (by decide) (by decide)) ?_) .no) rfl ?_
  ·show some (V.int ((3:Int)-((cA cs 6/48 %2:Nat):Int)))=_
   congr 2;omega
  ·rcases m23 with e|e<;>rw[e]<;>kernel_rfl
 have key:=Ev.zI (n:=n) (K:=K) (L:=L) (js:=[none,none,some 1,some 19]) (k:=1) (de:=Hw) ((List.range (3-cA cs 6/48 %2)).map λ(i:Nat)=>(V.int i,V.tup [.int (((wu.getD (cA cs 6 %6) []).getD i 0:Nat):Int),.int (([1,3,2]:List Int).getD i 0*(1-2*(([uu cs 0,uu cs 1,uu cs 2].getD i 0:Nat):Int)))]))
  (by rw[br];exact r) (by rw[aD,ez];omega) (by decide) (by rw[js];rfl) λz hz=>by
   obtain⟨i,hi,rfl⟩:=aY.1 hz
   have hi:=eF.1 hi
   have i3:i<3:=by omega
   have ol:=LA cs
   have bt:=get3 (uu cs) i3
   rw[js,<-bt]
   have wt:=Ic i i3
   have b1:Ev 4 K ((1,.int (i:Int))::[(2,.ref 2),(3,A2 cs)]) (aB KH (aB FN (aB fL (aH (aa 2) (dC (.int 6))) (dC (.int 6))) (aa 1)) (dC (.int 1))) (.int (uu cs i)):=.bin (.bin (.bin (GJ hc hm rfl) .con (kH _ 6 (by decide) (by decide))) (.var rfl) (QQ _ _)) .con (by show some (V.int (Builtin.bitAnd _ 1))=_;rw[Uc];rfl)
   exact .tup (.and (.idx (x:=A2 cs) (y:=.int i) (.var rfl) (.var rfl) λH U=>I_ (by exact adW i3 ol)) (.and (.bin (.idx (x:=.tup [.int 1,.int 3,.int 2]) (y:=.int i) (.tup (.and .con (.and .con (.and .con .no))) (ay rfl)) (.var rfl) λH U=>P4 i3) (.bin (x:=.int 1) (y:=.int (2*(uu cs i:Int))) .con (.bin .con b1 (Bk rfl)) rfl) (Bk wt)) .no)) (ay rfl)
 rw[br]at key
 unfold rx wW keysOf
 rw[br];exact key
def whole (top:Nat):List M:=if top=3 then dS 2++dS 3 else lL
theorem HX {top:Nat} (ht:top=3\/top=4) (h9:L.lookup 9=some (.int top)):Ev n K L (fS yh) (.lst ((whole top).map M.v)):=by
 have r:mI n K L (cZ (ae (dC (.int 2)) (ae (aB addW (aa 9) (dC (.int 1))) az))) (eZ 2 ((top:Int)+1) 1):=.range (.and .con (.and (.bin (.var h9) .con rfl) .no)) rfl (by rcases ht with e|e<;>rw[e]<;>kernel_rfl)
 refine Ev.C2 (r:=.list ((whole top).map M.v)) r rfl λH hh=>⟨H,?_,hh⟩
 show(gh (ah 1) dp _ _ _ ⟨H,[none,none,none,none]⟩).map _=_
 rcases ht with e|e<;>rw[e]<;>kernel_rfl
def cY (top:Nat) (F:M->M):aq:=(List.range (top+1)).map λd=>.eK ((dS d).map word) ((dS d).map λm=>(F m).v)
theorem E3 {top:Nat} (ht:top=3\/top=4) (h9:L.lookup 9=some (.int top)):∀H loc,bP K H->Loc n L loc->∃H',zL ⟨H,loc⟩=some (.list (cY top _root_.id),⟨H',loc⟩)/\bP K H':=by
 have r:mI n K L (cZ (ae (aB addW (aa 9) (dC (.int 1))) az)) (eZ 0 ((top:Int)+1) 1):=.range (.and (.bin (.var h9) .con rfl) .no) rfl (by rcases ht with e|e<;>rw[e]<;>kernel_rfl)
 refine vq (A:=[]) r rfl λH hh=>⟨H,?_,hh⟩
 show(gh (ah 1) dp _ _ _ ⟨H,[none,none,none]⟩).map _=_
 rcases ht with e|e<;>rw[e]<;>kernel_rfl
end
section
variable{n:Nat} {K K':HK} {L L':aE}
noncomputable abbrev Di:=V×ar×V
def BdD (m:Nat) (K:HK) (Lc:aE) (da:DA) (dk dv:D) (z:Di):Prop:=
 ∃X,Tg m da z.1 X/\(∀k,(X.lookup k).isSome=true->Lc.lookup k=none)/\Ev m K (X++Lc) dk (.str z.2.1)/\Ev m K (X++Lc) dv z.2.2
theorem Cd {m:Nat} {Lc:aE} {da:DA} {dk dv:D}:∀(zs:List Di) (ks:aG) (l:aq),(∀z∈zs,BdD m K Lc da dk dv z)->ks.length=l.length->(ks++zs.map (·.2.1)).Nodup->ks.length+zs.length<=1000->∀H loc,bP K H->Loc m Lc loc->
  ∃H' a6,gh da dp (jY dk dv) (zs.map (·.1)) (.dict ks l) ⟨H,loc⟩=some (.dict (ks++zs.map (·.2.1)) (l++zs.map (·.2.2)),⟨H',a6⟩)/\bP K H':=by
 intro xx
 induction xx with
 |nil=>
  intro ks l _ _ _ _ H loc hh hl
  exact⟨H,loc,by simp only[fB,eh];rfl,hh⟩
 |cons z zs ih=>
  intro ks l hb Ct nd hn H loc hh hl
  rw[bQ]at hn
  refine v5 (hb z (.head _)) λX t fr ek ev=>?_
  refine x3 (t H loc _ hl) λl1 e1 h1=>?_
  refine x3 (ek H l1 hh h1) λH2 e2 tG=>?_
  refine x3 (ev H2 l1 tG h1) λH3 e3 Fs=>?_
  rw[bo]at nd
  have ni:z.2.1∉ks:=λq=>(jc.1 nd).2.2 _ q _ (.head _) rfl
  refine x4 (ih (ks++[z.2.1]) (l++[z.2.2]) (λy hy=>hb y (.tail _ hy)) (by simp[Ct]) (by rw[eV];exact nd) (by rw[bH,eA];exact Y58 hn) H3 l1 Fs (h1.mono λj v e=>oO fr e)) λH4 l4 e4 Kb=>?_
  have g:jY dk dv (.dict ks l) ⟨H,l1⟩=some (.dict (ks++[z.2.1]) (l++[z.2.2]),⟨H3,l1⟩):=D0 (show ks.length<1048576 by exact adV hn) (aR e2 (aR (x:=nP (.str z.2.1)) rfl ((gH e3).trans (by rw[qa ks l _ _ Ct ni]))))
  refine⟨H4,l4,aR (x:=da z.1 ⟨H,loc⟩) e1 (aR (x:=dp _) rfl (aR g (e4.trans ?_))),Kb⟩
  rw[eV,eV];rfl
theorem Ev.Of {di:DI} {js:List (Option Nat)} {da:DA} {dk dv:D} (zs:List Di) (hi:mI n K L di (zs.map (·.1))) (hn:zs.length<=1000) (nd:(zs.map (·.2.1)).Nodup) (hb:∀z∈zs,BdD js.length K (jL js L) da dk dv z):Ev n K L (fS (a9 di js da dp (jY dk dv) (.dict [] []))) (.eK (zs.map (·.2.1)) (zs.map (·.2.2))):=λH loc hh hl=>
 (hi H loc hh hl).elim λH₁ w=>(Cd zs [] [] hb rfl nd ((cc _).symm▸hn) H₁ (qk js loc) w.2 (zw hl)).imp λbT cX=>cX.elim λg_ cX=>⟨(ak (Option.map _) (aR w.1 (ak (Option.map _) cX.1))).trans rfl,cX.2⟩
theorem Ju (g:M->V) (m:M):∀l:List M,m∈l->cz (l.map word) (l.map g) (word m)=some (g m):=by
 intro xx
 induction xx with
 |nil=>
  intro z1
  first|(cases z1;done)
 |cons a l ih=>
  intro h
  show(if word a=word m then some (g a)else cz (l.map word) (l.map g) (word m))=_
  by_cases q:word a=word m
  ·rw[ag q,qC q]
  ·rw[af q];exact ih ((aC.1 h).elim (λe=>absurd (ak word e.symm) q) id)
theorem pB {top d:Nat} (F:M->M) (hd:d<=top):(cY top F)[d]?=some (.eK ((dS d).map word) ((dS d).map λm=>(F m).v)):=by
 unfold cY
 rw[aQ,mu (by exact PK hd)];rfl
theorem vo {top:Nat} {F:M->M} {m:M} {mf:Nat} {a b c:D} (hm:dg m<=top) (hk:(mf,Is (.list (cY top F)))∈K) (ha:Ev n K L a (.ref mf)) (hb:Ev n K L b (.int (dg m))) (hc:Ev n K L c (.str (word m))):Ev n K L (aH (aH a b) c) (F m).v:=
 .idx (.idx ha hb λH h=>mY (h.is hk) (pB F hm)) hc λH U=>Ju (λm=>(F m).v) m _ (eD.2 rfl)
theorem Ou {x q:M} (h1:L.lookup 1=some x.v) (h6:L.lookup 6=some q.v):Ev n K L (fS Om) (.lst (mvs (ad x q))):=by
 have j:jL [none,none,some 6,some 1] L=[(2,q.v),(3,x.v)]:=by simp[jL,List.zipIdx,h1,h6]
 exact Ev.C4 (js:=[none,none,some 6,some 1]) (λv=>.int (atC x (JJ v)+atC q (JJ v))) mI.r3 (ay rfl) (by decide) (by rw[j];rfl) λy hy=>by
  obtain⟨i,rfl,h1,h2⟩:=in3 hy
  rw[j]
  exact .bin (.idx (.var rfl) (.var rfl) λH U=>(iQ.v x).at h1 h2 H) (.idx (.var rfl) (.var rfl) λH U=>(iQ.v q).at h1 h2 H) rfl
theorem T_ {top:Nat} {F:M->M} {t:Tk} {mf:Nat} (ht:dg t.1.1=dg t.1.2) (h4:top<=4) (hd:dg (sx t)<=top) (hk:(mf,Is (.list (cY top F)))∈K) (rD:L.lookup 12=some (pV t.1)) (Nd:L.lookup 20=some (.int (dg (sx t)))) (Cu:L.lookup 25=some (.ref mf)) (h26:L.lookup 26=some t.2.v):Ev n K L (fS Ol) (.lst [(F (sx t)).v,(F (sy t)).v]):=by
 have j:jL [none,none,none,none,some 25,some 20,some 26] L=[(4,.ref mf),(5,.int (dg (sx t))),(6,t.2.v)]:=by simp[jL,List.zipIdx,Nd,Cu,h26]
 have dy:dg (sy t)=dg (sx t):=by unfold sx sy;rw[ko,ko,ht]
 refine Ev.zI (js:=[none,none,none,none,some 25,some 20,some 26]) (k:=1) (de:=N9) [(t.1.1.v,(F (sx t)).v),(t.1.2.v,(F (sy t)).v)] (.iter (x:=pV t.1) (.var rD) rfl) (ay rfl) (by decide) (by rw[j];rfl) λz hz=>?_
 rw[j]
 simp only[aC,bh,or_false]at hz
 rcases hz with rfl|rfl
 ·exact vo hd hk (.var rfl) (.var rfl) (.cM (.and (Ou rfl rfl) .no) (fV (iQ.l _) (by show dg (sx t)<=_;exact adU h4 hd)))
 ·exact vo (by exact adT dy hd) hk (.var rfl) (dy▸.var rfl) (.cM (.and (Ou rfl rfl) .no) (fV (iQ.l _) (by show dg (sy t)<=_;exact adS dy hd h4)))
theorem Ev.W7 {ks:Ky} (o:jX ks) {k kk:Nat} {d:D} {x y:M} (hx:dg x<=4) (he:dg x=dg y) (hd:Ev n K L d (.lst [x.v,y.v])) (h1:L.lookup k=some .lam) (h2:L.lookup kk=some (rx ks)):Ev n K L (yf k kk d) (.lst (if Wt ks y<Wt ks x then[y.v,x.v]else[x.v,y.v])):=λH loc hh hl=>by
 refine x3 (hd H loc hh hl) λH1 e1 h=>?_
 refine⟨H1,aR e1 (aR (x:=xI _) rfl (aR (x:=rK _) rfl (D0 (by rw[hl.2 k _ h1];rfl) (aR (ak Option.join (hl.2 kk _ h2)) (aR (N4 o (iQ.v x)) (aR (N4 o (iQ.v y)) (aR (x:=intsOf _) rfl (aR (x:=intsOf _) rfl ?_)))))))),h⟩
 refine(ag λe=>?_).trans rfl
 rw[aaA o hx he e]
end
section
variable{n:Nat} {K K':HK} {L L':aE}
theorem Tg.lst {Nl:Cw} {vs:aq} {X:aE} (h:JU n Nl vs X):Tg n (sT Nl) (.lst vs) X:=λH loc L hl=>(h H loc L hl).imp λl w=>⟨aR (x:=xI (.lst vs)) rfl w.1,w.2⟩
theorem PA {H:aj} (x y:M):eqZ H x.v y.v=some (decide (x=y)):=by
 have o:∀z:M,jl 8 (cR H z.v)=true:=λz=>by kernel_rfl
 refine zX ((r6 (o x) (o y)).trans (ak some ?_))
 show((x.1:Int)==y.1&&((x.2.1:Int)==y.2.1&&((x.2.2:Int)==y.2.2&&true)))=_
 rw[iu,kT]
 simp only[bp,beq_iff_eq,and_true]
 exact⟨λh=>pK (by exact Y43 h.1) (by exact Y43 h.2.1) (by exact Y43 h.2.2),λh=>h▸⟨rfl,rfl,rfl⟩⟩
theorem Ca {top d:Nat} {F G:M->M} (hd:d<=top) (h:∀m,dg m≠d->G m=F m):(cY top F).set d (.eK ((dS d).map word) ((dS d).map λm=>(G m).v))=cY top G:=by
 refine List.ext_getElem? λi=>?_
 by_cases q:i=d
 ·subst q
  rw[q6 (by rw[cY,aD,ez];exact PK hd),pB G hd]
 ·rw[jh (λe=>q e.symm)]
  unfold cY
  rw[aQ,aQ]
  cases z:(List.range (top+1))[i]? with
  |none=>rfl
  |some j=>
   have :j=i:=by
    obtain⟨hi,e⟩:=bO.1 z
    rw[qP]at e;exact e.symm
   subst this
   show some (V.eK _ _)=some (V.eK _ _)
   rw[jg λm hm=>ak M.v (h m λe=>q ((eD.1 hm).symm.trans e))]
theorem Iv {d:Nat} (h:d<=4):((dS d).map word).Nodup:=by
 have a:(List.range 5).all (λd=>decide (dS d).Nodup)=true:=by decide+kernel
 have b:(dS d).Nodup:=of_decide_eq_true (aI.1 a d (eF.2 (by exact Wz h)))
 exact List.Pairwise.map word (λx y h e=>h (qC e)) b
theorem Mb (g:M->V) (l:List M):cQ (l.map word) (l.map g)=l.map λm=>.tup [.str (word m),g m]:=by
 unfold cQ
 rw[List.zip_map',br];rfl
theorem Iw {d:Nat} (h:d<=4):(dS d).length<=15:=by
 have a:(List.range 5).all (λd=>Nat.ble (dS d).length 15)=true:=by decide+kernel
 exact ay (aI.1 a d (eF.2 (by exact Wz h)))
theorem Aw {d:Nat} (h:d<=4):fO ((dS d).map word)=true:=aI.2 λk hk=>by
 obtain⟨m,hm,rfl⟩:=aY.1 hk
 have :=eD.1 hm
 exact decide_eq_true (by rw[d7];exact adR this h)
theorem aan {top d:Nat} {F:M->M} {a b:M} {mf:Nat} (h4:top<=4) (hd:d<=top) (hk:(mf,Is (.list (cY top F)))∈K) (Nd:L.lookup 20=some (.int d)) (Cu:L.lookup 25=some (.ref mf)) (h27:L.lookup 27=some a.v) (h28:L.lookup 28=some b.v):Ev n K L (fS Oo) (.eK ((dS d).map word) ((dS d).map λm=>(if F m=b then a else F m).v)):=by
 have j:jL [none,none,none,some 28,some 27] L=[(3,b.v),(4,a.v)]:=by simp[jL,List.zipIdx,h27,h28]
 have pl:=Iw (show d<=4 by exact Bb h4 hd)
 have :=Ev.Of (n:=n) (K:=K) (L:=L) (di:=kB (aH (aa 25) (aa 20))) (js:=[none,none,none,some 28,some 27]) (da:=bx (ao (ah 1) (ao (ah 2) bf))) (dk:=aa 1) (dv:=lO (aS eqZ (aa 2) (aa 3)) (aa 4) (aa 2)) ((dS d).map λm=>(.tup [.str (word m),(F m).v],word m,(if F m=b then a else F m).v))
  (by rw[br];exact Mb (λm=>(F m).v) _▸.items (.idx (.var Cu) (.var Nd) λH h=>mY (h.is hk) (pB F hd)) (by rw[aD,aD]) (Aw (by exact Bb h4 hd))) (by rw[aD];exact adQ pl) (by rw[br];exact Iv (by exact Bb h4 hd)) λz hz=>by
   obtain⟨m,hm,rfl⟩:=aY.1 hz
   rw[j]
   refine⟨_,Tg.two (by decide) (by decide),λk hk=>?_,.var rfl,.ite (c:=decide (F m=b)) (.cmp (x:=(F m).v) (y:=b.v) (.var rfl) (.var rfl) λH U=>PA _ _) (λh=>?_) λh=>?_⟩
   ·match k,hk with
    |0,hk=>cases hk
    |1,_|2,_=>rfl
    |k+3,hk=>cases hk
   ·rw[ag (of_decide_eq_true h)];exact .var rfl
   ·rw[af (of_decide_eq_false h)];exact .var rfl
 rw[br,br]at this
 exact this
set_option tactic.hygienic true in
theorem Cj {ks:Ky} (o:jX ks) {top:Nat} {F:M->M} (lo:∀x,dg (F x)=dg x) {t:Tk} {mf:Nat} (ht:dg t.1.1=dg t.1.2) (h4:top<=4) (hd:dg (sx t)<=top) (hn:∀p∈K,p.1≠mf) (hL:28<n) (rD:L.lookup 12=some (pV t.1)) (Nd:L.lookup 20=some (.int (dg (sx t)))) (OO:L.lookup 24=some .lam) (Cu:L.lookup 25=some (.ref mf)) (h26:L.lookup 26=some t.2.v) (JR:L.lookup 37=some (rx ks)):
  SK n ((mf,Is (.list (cY top F)))::K) L Ga ((mf,Is (.list (cY top (upd (Wt ks) F t))))::K) ((28,(xE (Wt ks) F t).2.v)::(27,(xE (Wt ks) F t).1.v)::L):=by
 have dy:dg (sy t)=dg (sx t):=by unfold sx sy;rw[ko,ko,ht]
 have e:(if Wt ks (F (sy t))<Wt ks (F (sx t))then[(F (sy t)).v,(F (sx t)).v]else[(F (sx t)).v,(F (sy t)).v])=[(xE (Wt ks) F t).1.v,(xE (Wt ks) F t).2.v]:=by unfold xE;split<;>rfl
 have hs:=(G' (Wt ks) F t).1
 have ds:dg (xE (Wt ks) F t).2=dg (sx t):=by rcases hs with⟨_,h⟩|⟨_,h⟩<;>rw[h,lo]<;>exact adP dy
 have so:=Ev.W7 (n:=n) (K:=(mf,Is (.list (cY top F)))::K) (L:=L) o (by rw[lo];exact Bb h4 hd) (by rw[lo,lo,dy]) (T_ ht h4 hd (.head _) rD Nd Cu h26) OO JR
 rw[e]at so
 refine SK.seq (Sn.set so (Tg.lst (.cons (.var (by exact adO hL)) (.cons (.var hL) .nil)))).k ?_
 have up:∀m,upd (Wt ks) F t m=if F m=(xE (Wt ks) F t).2 then(xE (Wt ks) F t).1 else F m:=λm=>rfl
 generalize xE (Wt ks) F t=s at ds up
 refine SK.seq (SK.store (m:=mf) (x:=.ref mf) (y:=.int (dg (sx t))) (v:=.eK ((dS (dg (sx t))).map word) ((dS (dg (sx t))).map λm=>(upd (Wt ks) F t m).v)) (.ite (c:=decide (s.1=s.2)) (.cmp (x:=s.1.v) (y:=s.2.v) (.var rfl) (.var rfl) λH U=>PA _ _) (λh=>?_) λh=>?_) (.var Cu) (.var Nd) hn λH hH=>?_) Sn.fin.k
 ·have h:=of_decide_eq_true h
  refine .idx (.var Cu) (.var Nd) λH hh=>?_
  rw[jg (g:=λm=>(F m).v) λm U=>ak M.v ((up m).trans (by
   split
   ·rename_i q;rw[q,h]
   ·rfl))]
  exact mY hh.at (pB F hd)
 ·rw[jg (g:=λm=>(if F m=s.2 then s.1 else F m).v) λm U=>ak M.v (up m)]
  exact aan h4 hd (.head _) Nd Cu rfl rfl
 ·rw[sf hH (by rw[cY,aD,ez];exact PK hd),Ca hd λm hm=>(up m).trans (af λq=>hm (by rw[<-lo m,q,ds]))]
end
section
variable{n:Nat} {K K':HK} {L L':aE}
def cT (top:Nat) (p:M×M):List Tk:=(List.range' (dg p.1) (top+1-dg p.1)).flatMap λd=>(dS (d-dg p.1)).map λq=>(p,q)
theorem mA {top:Nat} {p:M×M} {t:Tk}:t∈cT top p↔t.1=p/\dg t.2+dg p.1<=top:=by
 unfold cT
 simp only[f6,aY,List.mem_range'_1,eD]
 constructor
 ·rintro⟨d,h,q,hq,rfl⟩
  exact⟨rfl,by show dg q+_<=_;exact adN h.2 h.1 hq⟩
 ·rintro⟨rfl,h⟩
  exact⟨dg t.2+dg t.1.1,by exact adM h,t.2,by exact adL,rfl⟩
def jq (W:M->Int) (F:M->M) (ts:List Tk):M->M:=ts.foldl (λF t=>upd W F t) F
theorem FI.fold {W:M->Int}:∀(ts:List Tk) (F:M->M) (T:List Tk),FI W F T->(∀t∈ts,dg t.1.1=dg t.1.2)->FI W (jq W F ts) (T++ts):=by
 intro xx
 induction xx with
 |nil=>
  intro F T f _
  rw[eh];exact f
 |cons t ts ih=>
  intro F T f h
  have :=ih _ (T++[t]) (f.upd (h t (.head _))) λu hu=>h u (.tail _ hu)
  rw[eV]at this;exact this
def tkV (t:Tk):V:=.tup [.int (dg (sx t)),t.2.v]
theorem T9:AllP (λm=>∀(y:M) H,AllP (λ(top:Nat)=>(gh (ah 1) dp (lq (cI (aN cq (ae (aB gI (aa 1) (a5 g0 (ae (aH (aa 5) (dC (.int 0))) az))) az))) (ah 2) dp (aK (bb (ae (aa 1) (ae (aa 2) az))))) (eZ (dg m) ((top:Int)+1) 1) (.list []) ⟨H,[none,none,none,none,none,some (pV (m,y))]⟩).map (λx=>(x.1,x.2.H))=some (.list ((cT top (m,y)).map tkV),H)) [3,4]) PQ:=by
 rw[GL]
 repeat' first|exact True.intro|refine And.intro ?_ ?_
 all_goals exact λy H=>⟨by kernel_rfl,by kernel_rfl,True.intro⟩
theorem La {m:M} {a:D} (h:Ev n K L a m.v):Ev n K L (a5 g0 (ae a az)) (.int (dg m)):=.call (.and h .no) λH U=>by
 have e:wY H [m.v]=some (.int (dg m)):=by
  show some (V.int ((m.1:Int)+((m.2.1:Int)+((m.2.2:Int)+0))))=_
  congr 2;unfold dg;exact Y98
 show Option.or (A8 H [m.v]) (wY H [m.v])=_
 rw[e];rfl
theorem aam {top:Nat} {p:M×M} (hp:p.1∈PQ) (ht:top=3\/top=4) (h9:L.lookup 9=some (.int top)) (rD:L.lookup 12=some (pV p)):Ev n K L (fS Oj) (.lst ((cT top p).map tkV)):=by
 have d:=wZ hp
 have r:mI n K L (cZ (ae (a5 g0 (ae (aH (aa 12) (dC (.int 0))) az)) (ae (aB addW (aa 9) (dC (.int 1))) az))) (eZ (dg p.1) ((top:Int)+1) 1):=.range (.and (La (.idx (x:=pV p) (y:=.int 0) (.var rD) .con λH U=>rfl)) (.and (.bin (.var h9) .con rfl) .no)) rfl (by rcases ht with e|e<;>rcases d with q|q<;>rw[e,q]<;>kernel_rfl)
 refine Ev.C2 (r:=.list ((cT top p).map tkV)) r (by simp[rD]) λH hh=>⟨H,?_,hh⟩
 have j:jV [none,none,none,none,none,some 12] L=[none,none,none,none,none,some (pV p)]:=by simp[jV,rD]
 rw[j]
 exact(T9.of p.1 hp p.2 H).of top (by simpa using ht)
theorem M8 {k j:Nat} {v:V} (f:L.lookup j=none) (e:L.lookup k=some v):(k==j)=false:=bu.2 λq=>by subst q;exact nomatch f.symm.trans e
structure Fr (L:aE):Prop where
 a:L.lookup 12=none
 b:L.lookup 20=none
 c:L.lookup 26=none
 d:L.lookup 27=none
 e:L.lookup 28=none
theorem yP {ks:Ky} (o:jX ks) {top:Nat} (ht:top=3\/top=4) {F:M->M} {T:List Tk} (f:FI (Wt ks) F T) {p:M×M} {mf:Nat} (hp:p.1∈PQ) (hd:dg p.1=dg p.2) (hn:∀p∈K,p.1≠mf) (fr:Fr L) (h9:L.lookup 9=some (.int top)) (OO:L.lookup 24=some .lam) (Cu:L.lookup 25=some (.ref mf)) (JR:L.lookup 37=some (rx ks)):
  SK 56 ((mf,Is (.list (cY top F)))::K) ((12,pV p)::L) wQ ((mf,Is (.list (cY top (jq (Wt ks) F (cT top p)))))::K) L:=by
 have ts:∀t∈cT top p,t.1=p/\dg t.2+dg p.1<=top:=λt h=>mA.1 h
 generalize hT:cT top p=tl at ts
 have lp:=SK.loop (n:=56) (K:=(mf,Is (.list (cY top F)))::K) (L:=(12,pV p)::L) (db:=Ga) (da:=bx (ao (ah 20) (ao (ah 26) bf))) (.iter (aam hp ht (lk h9 rfl) rfl) rfl) (λU=>(12,pV p)::L) (λi=>(mf,Is (.list (cY top (jq (Wt ks) F (tl.take i)))))::K) (λk v h=>h) rfl λi x hx=>by
  rw[hT,aQ,aO]at hx
  obtain⟨t,hx,rfl⟩:=hx
  obtain⟨e1,e2⟩:=ts t (bI hx)
  have fi:=FI.fold (tl.take i) F T f λt ht=>by rw[(ts t (kW ht)).1];exact hd
  refine⟨_,Tg.two (by decide) (by decide),?_⟩
  have e3:jq (Wt ks) F (tl.take (i+1))=upd (Wt ks) (jq (Wt ks) F (tl.take i)) t:=by rw[take_succ_get hx];unfold jq;rw[List.foldl_append];rfl
  rw[e3]
  refine SK.mono (Cj o (λx=>(fi.lo x).1) (t:=t) (by rw[e1];exact hd) (by exact PJ ht) (by unfold sx;rw[ko,e1];exact Y10 e2) hn (by decide) (by rw[e1];rfl) rfl (lk (lk (lk OO rfl) rfl) rfl) (lk (lk (lk Cu rfl) rfl) rfl) rfl (lk (lk (lk JR rfl) rfl) rfl)) λk v e=>?_
  by_cases q:k=12
  ·subst q;exact e
  ·have e':L.lookup k=some v:=by rw[bG,bu.2 q]at e;exact e
   exact lk (lk (lk (lk e (M8 fr.b e')) (M8 fr.c e')) (M8 fr.d e')) (M8 fr.e e')
 rw[hT,aD,dR (aF _)]at lp
 refine SK.mono (SK.seq lp Sn.fin.k) λk v e=>lk e (M8 fr.a e)
theorem Ci {ks:Ky} (o:jX ks) {top:Nat} (ht:top=3\/top=4) {dr:eY} (hp:∀p∈dr,p.1∈PQ/\dg p.1=dg p.2) {mf:Nat} (hn:∀p∈K,p.1≠mf) (fr:Fr L) (h4:L.lookup 4=some (.lst (dr.map pV))) (h9:L.lookup 9=some (.int top)) (OO:L.lookup 24=some .lam) (Cu:L.lookup 25=some (.ref mf)) (JR:L.lookup 37=some (rx ks)):
  SK 56 ((mf,Is (.list (cY top _root_.id)))::K) L (gJ (cI (aa 4)) (ah 12) wQ) ((mf,Is (.list (cY top (jq (Wt ks) _root_.id (dr.flatMap (cT top))))))::K) L:=by
 have hd:∀(i:Nat),∀t∈(dr.take i).flatMap (cT top),dg t.1.1=dg t.1.2:=λi t h=>by
  refine x3 (f6.1 h) λp h1 h2=>?_
  rw[(mA.1 h2).1];exact(hp p (kW h1)).2
 have lp:=SK.loop (n:=56) (K:=(mf,Is (.list (cY top _root_.id)))::K) (L:=L) (db:=wQ) (da:=ah 12) (.iter (.var h4) rfl) (λU=>L) (λi=>(mf,Is (.list (cY top (jq (Wt ks) _root_.id ((dr.take i).flatMap (cT top))))))::K) (λk v h=>h) rfl λi x hx=>by
  rw[aQ,aO]at hx
  obtain⟨p,hx,rfl⟩:=hx
  have hq:=hp p (bI hx)
  refine⟨_,.var (by decide),?_⟩
  have e3:jq (Wt ks) _root_.id ((dr.take (i+1)).flatMap (cT top))=jq (Wt ks) (jq (Wt ks) _root_.id ((dr.take i).flatMap (cT top))) (cT top p):=by
   rw[take_succ_get hx,List.flatMap_append];unfold jq;rw[List.foldl_append];simp
  rw[e3]
  exact yP o ht (FI.fold _ _ [] (FI.start _) (hd i)) hq.1 hq.2 hn fr h9 OO Cu JR
 rw[aD,dR (aF _)]at lp
 exact lp
end
section
variable{n:Nat} {K K':HK} {L L':aE}
def gS (ρ:Rl) (c:Int):Int:=atC ρ.2 c-atC ρ.1 c
theorem P_ {rs:List Rl}:∀(n:Nat) (m:M),∀ρ∈te rs n m,ρ∈rs:=by
 intro xx
 induction xx with
 |zero=>
  intro _ ρ h
  exact nomatch h
 |succ n ih=>
  intro m ρ h
  rw[uB]at h
  cases e:rs.find? λρ=>gG ρ.1 m with
  |none=>rw[e]at h;cases h
  |some σ=>
   rw[e]at h
   rcases aC.1 h with rfl|h
   ·exact pf e
   ·exact ih _ ρ h
theorem aav {ρ:Rl} {m:M} (h:gG ρ.1 m=true) {c:Int} (h0:0<=c) (h2:c<=2):atC (ap ρ m) c=atC m c+gS ρ c:=by
 have l:=eR.1 h
 rcases(by exact UP h0 h2:c=0\/c=1\/c=2)with rfl|rfl|rfl
 ·show((m.1-ρ.1.1+ρ.2.1:Nat):Int)=m.1+((ρ.2.1:Int)-ρ.1.1);exact PI l.1
 ·show((m.2.1-ρ.1.2.1+ρ.2.2.1:Nat):Int)=m.2.1+((ρ.2.2.1:Int)-ρ.1.2.1);exact PI l.2.1
 ·show((m.2.2-ρ.1.2.2+ρ.2.2.2:Nat):Int)=m.2.2+((ρ.2.2.2:Int)-ρ.1.2.2);exact PI l.2.2
theorem P' {rs:List Rl} {c:Int} (h0:0<=c) (h2:c<=2):∀(n:Nat) (m:M),atC (run (te rs n m) m) c=atC m c+((te rs n m).map λρ=>gS ρ c).sum:=by
 intro xx
 induction xx with
 |zero=>
  intro m
  exact(gp _).symm
 |succ n ih=>
  intro m
  rw[uB]
  cases e:rs.find? λρ=>gG ρ.1 m with
  |none=>exact(gp _).symm
  |some ρ=>
   have hl:=kM (p:=λρ:Rl=>gG ρ.1 m) e
   have :=ih (ap ρ m)
   rw[aav hl h0 h2]at this
   show atC (run (te rs n (ap ρ m)) (ap ρ m)) c=atC m c+(gS ρ c+((te rs n (ap ρ m)).map λρ=>gS ρ c).sum)
   exact adK this
theorem KZ {rs:List Rl} {W:M->Int} (nO:∀x y,W (ad x y)=W x+W y) (o:FH W rs) (n:Nat) (m:M):(te rs n m).length=0↔run (te rs n m) m=m:=by
 cases n with
 |zero=>exact⟨λU=>rfl,λU=>rfl⟩
 |succ n=>
  rw[uB]
  cases e:rs.find? λρ=>gG ρ.1 m with
  |none=>exact⟨λU=>rfl,λU=>rfl⟩
  |some ρ=>
   have hr:=pf e
   have hl:=kM (p:=λρ:Rl=>gG ρ.1 m) e
   refine⟨nofun,λh=>?_⟩
   have h:run (te rs n (ap ρ m)) (ap ρ m)=m:=h
   have w1:=zM nO (o ρ hr) hl
   have w2:=((uN (λρ h=>h) n (ap ρ m):Sr rs _ _).low nO o).2
   rw[h]at w2
   exact adJ w1 w2
noncomputable def wsum (g:ar->Int) (cl:Cl):Int:=(cl.map λp=>p.2*g p.1).sum
theorem Eh (g:ar->Int) (w:ar):∀cl:Cl,wsum g (eE cl w 1)=wsum g cl+g w:=by
 intro xx
 induction xx with
 |nil=>
  show 1*g w+0=0+g w;exact adI
 |cons p r ih=>
  by_cases q:p.1=w
  ·rw[show eE (p::r) w 1=(p.1,p.2+1)::r from ag q,<-q]
   show(p.2+1)*g p.1+wsum g r=p.2*g p.1+wsum g r+g p.1
   rw[Int.add_mul,Int.one_mul,Int.add_right_comm]
  ·rw[show eE (p::r) w 1=p::eE r w 1 from af q]
   show p.2*g p.1+wsum g (eE r w 1)=p.2*g p.1+wsum g r+g w
   rw[ih,Int.add_assoc]
theorem HU (g:ar->Int):∀(t:List Rl) (cl:Cl),wsum g (D4 cl t)=wsum g cl+(t.map λρ=>g (word ρ.1)).sum:=by
 intro xx
 induction xx with
 |nil=>
  intro cl
  exact(gp _).symm
 |cons ρ t ih=>
  intro cl
  show wsum g (D4 (eE cl (word ρ.1) 1) t)=_
  rw[ih,Eh,bo,n9];exact acn
theorem K6:∀(t:List Rl) (cl:Cl),qf (D4 cl t)=qf cl+t.length:=by
 intro xx
 induction xx with
 |nil=>
  intro cl
  exact(gp _).symm
 |cons ρ t ih=>
  intro cl
  show qf (D4 (eE cl (word ρ.1) 1) t)=_
  rw[ih,zT,bQ];exact WC
theorem JA (w:ar):∀(cl:Cl),∀p∈eE cl w 1,p.1=w\/p.1∈j6 cl:=by
 intro xx
 induction xx with
 |nil=>
  intro p h
  exact .inl (by rw[a7.1 h])
 |cons q r ih=>
  intro p h
  by_cases e:q.1=w
  ·rw[show eE (q::r) w 1=(q.1,q.2+1)::r from ag e]at h
   rcases aC.1 h with rfl|h
   ·exact .inr (.head _)
   ·exact .inr (.tail _ (aY.2 ⟨p,h,rfl⟩))
  ·rw[show eE (q::r) w 1=q::eE r w 1 from af e]at h
   rcases aC.1 h with rfl|h
   ·exact .inr (.head _)
   ·exact(ih p h).imp id (.tail _)
theorem MO:∀(t:List Rl) (cl:Cl),∀p∈D4 cl t,p.1∈j6 cl\/∃ρ∈t,p.1=word ρ.1:=by
 intro xx
 induction xx with
 |nil=>
  intro cl p h
  exact .inl (aY.2 ⟨p,h,rfl⟩)
 |cons ρ t ih=>
  intro cl p h
  rcases ih (eE cl (word ρ.1) 1) p h with h|⟨σ,hs,e⟩
  ·refine x3 (aY.1 h) λq hq e=>?_
   rcases JA (word ρ.1) cl q hq with h|h
   ·exact .inr ⟨ρ,.head _,e▸h⟩
   ·exact .inl (e▸h)
  ·exact .inr ⟨σ,.tail _ hs,e⟩
theorem T6:∀(t:List Rl) (cl:Cl) (N:Nat),(∀ρ∈t,dg ρ.1<=100)->eN N cl->eN (N+t.length) (D4 cl t):=by
 intro xx
 induction xx with
 |nil=>
  intro cl N _ h
  exact h
 |cons ρ t ih=>
  intro cl N ht h
  have :=ih (eE cl (word ρ.1) 1) (N+1) (λσ hs=>ht σ (.tail _ hs)) (h.add (by rw[d7];exact ht ρ (.head _)) 1)
  rw[bQ,gq t.length,<-iq];exact this
theorem K3 (rs:List Rl):∀(n:Nat) (m:M),(te rs n m).length<=n:=by
 intro xx
 induction xx with
 |zero=>
  intro _
  exact aF _
 |succ n ih=>
  intro m
  rw[uB]
  cases rs.find? λρ=>gG ρ.1 m with
  |none=>exact bN _
  |some ρ=>exact iz (ih _)
def Cp (rl:List k5):aG:=rl.map λx=>word x.1.1
def Fo (rl:List k5):V:=.eK (Cp rl) (rl.map λx=>dq x.1)
def gR (rl:List k5) (c:Int) (w:ar):Int:=(rl.find? λx=>word x.1.1==w).elim 0 λx=>gS x.1 c
theorem Be {rl:List k5} (nd:(Cp rl).Nodup) {x:k5} (h:x∈rl):cz (Cp rl) (rl.map λx=>dq x.1) (word x.1.1)=some (dq x.1)/\∀c,gR rl c (word x.1.1)=gS x.1 c:=by
 induction rl with
 |nil=>cases h
 |cons y rl ih=>
  have U1:=fZ.1 nd
  have e:cz (Cp (y::rl)) ((y::rl).map λx=>dq x.1) (word x.1.1)=if word y.1.1=word x.1.1 then some (dq y.1)else cz (Cp rl) (rl.map λx=>dq x.1) (word x.1.1):=rfl
  rw[e]
  rcases aC.1 h with rfl|h
  ·refine⟨ag rfl,λc=>?_⟩
   simp only[gR,kL,beq_self_eq_true];rfl
  ·have q:word y.1.1≠word x.1.1:=λq=>U1.1 (aY.2 ⟨x,h,q.symm⟩)
   have i:=ih U1.2 h
   refine⟨(af q).trans i.1,λc=>?_⟩
   rw[<-i.2 c]
   simp only[gR,kL,bu.2 q]
noncomputable def vT (f:Int->Int):V:=.tup [.int (f 0),.int (f 1),.int (f 2)]
theorem WQ (f:Int->Int) {i:Int} (h0:0<=i) (h2:i<=2) (H:aj):gC H (vT f) (.int i)=some (.int (f i)):=by
 rcases(by exact UP h0 h2:i=0\/i=1\/i=2)with rfl|rfl|rfl<;>rfl
theorem step_at (ρ:Rl) {i:Int} (h0:0<=i) (h2:i<=2) (H:aj):gC H (dq ρ) (.int i)=some (.int (gS ρ i)):=by
 rcases(by exact UP h0 h2:i=0\/i=1\/i=2)with rfl|rfl|rfl<;>rfl
theorem Fh {rl:List k5} (nd:(Cp rl).Nodup) {x:k5} (hx:x∈rl) (ok:iW x) {f:Int->Int} {k:Int} (Nc:L.lookup 30=some (Fo rl)) (h34:L.lookup 34=some (vT f)) (h35:L.lookup 35=some (.str (word x.1.1))) (h15:L.lookup 15=some (.int k)):Sn 56 K L CB ((34,vT λc=>f c-k*gR rl c (word x.1.1))::L):=by
 have j:jL [none,none,some 34,some 35,some 30,some 15] L=[(2,vT f),(3,.str (word x.1.1)),(4,Fo rl),(5,.int k)]:=by simp[jL,List.zipIdx,Nc,h34,h35,h15]
 have g:=Be nd hx
 have d:=dH.1 ok.l
 have c:Ev 56 K L (fS Oq) _:=Ev.C4 (js:=[none,none,some 34,some 35,some 30,some 15]) (λv=>.int (f (JJ v)-k*gS x.1 (JJ v))) mI.r3 (ay rfl) (by decide) (by rw[j];rfl) λy hy=>by
  obtain⟨i,rfl,h1,h2⟩:=in3 hy
  rw[j]
  have sm:small (gS x.1 i)=true:=by
   have a:=KG (m:=x.1.1) (by exact Wy d.2) i
   have b:=KG (m:=x.1.2) (by rw[<-ok.d];exact Wy d.2) i
   exact decide_eq_true (by unfold gS;omega)
  exact .bin (.idx (.var rfl) (.var rfl) λH U=>WQ f h1 h2 H) (.bin (.var rfl) (.idx (.idx (x:=Fo rl) (y:=.str (word x.1.1)) (.var rfl) (.var rfl) λH U=>g.1) (.var rfl) λH U=>step_at _ h1 h2 H) (Bj sm)) rfl
 have e:(λc=>f c-k*gR rl c (word x.1.1))=λc=>f c-k*gS x.1 c:=funext λc=>by rw[g.2 c]
 rw[e]
 exact Sn.seq (Sn.fH (by decide) (.call (.and c .no) λH U=>rfl)) .fin
theorem MU {rl:List k5} (nd:(Cp rl).Nodup) (ok:∀x∈rl,iW x) {F m:M} {k:Int} {cl:Cl} (hc:eN 20 cl) (hk:∀p∈cl,∃x∈rl,p.1=word x.1.1) (hs:∀c:Int,0<=c->c<=2->atC F c=atC m c+wsum (gR rl c) cl) (h29:L.lookup 29=some (ent F k cl)) (Nc:L.lookup 30=some (Fo rl)) (f35:L.lookup 35=none) (f15:L.lookup 15=none):
  Sn 56 K ((34,F.v)::L) (gJ (kB (aH (aa 29) (dC (.int 4)))) (bx (ao (ah 35) (ao (ah 15) bf))) CB) ((34,m.v)::L):=by
 have e0:F.v=vT λc=>atC F c-wsum (gR rl c) (cl.take 0):=by
  show vT (atC F)=vT λc=>atC F c-0
  rw[show(λc=>atC F c-0)=atC F from funext λc=>Int.sub_zero _]
 have e1:m.v=vT λc=>atC F c-wsum (gR rl c) (cl.take cl.length):=by
  rw[List.take_length]
  show V.tup [.int (atC m 0),.int (atC m 1),.int (atC m 2)]= .tup [.int (atC F 0-wsum (gR rl 0) cl),.int (atC F 1-wsum (gR rl 1) cl),.int (atC F 2-wsum (gR rl 2) cl)]
  rw[hs 0 (by decide) (by decide),hs 1 (by decide) (by decide),hs 2 (by decide) (by decide),Int.add_sub_cancel,Int.add_sub_cancel,Int.add_sub_cancel]
 have il:(cQ (j6 cl) (pC cl)).length=cl.length:=by rw[vj,aD]
 have lp:=Sn.loop (n:=56) (K:=K) (L:=(34,F.v)::L) (db:=CB) (da:=bx (ao (ah 35) (ao (ah 15) bf))) (l:=cQ (j6 cl) (pC cl)) (.items (.idx (x:=ent F k cl) (y:=.int 4) (.var (lk h29 rfl)) .con λH U=>rfl) (tZ cl) hc.short) (λi=>(34,vT λc=>atC F c-wsum (gR rl c) (cl.take i))::L) (λk v h=>by rw[e0];exact h) λi y hy=>by
  rw[vj,aQ,aO]at hy
  obtain⟨p,hp,rfl⟩:=hy
  refine x3 (hk p (bI hp)) λx hx e=>?_
  refine⟨_,Tg.two (by decide) (by decide),?_⟩
  have bt:=Fh (K:=K) (L:=[(15,.int p.2),(35,.str p.1)]++(34,vT λc=>atC F c-wsum (gR rl c) (cl.take i))::L) nd hx (ok x hx) (k:=p.2) (lk (lk (lk Nc rfl) rfl) rfl) rfl (by rw[e];rfl) rfl
  have e2:(λc=>atC F c-wsum (gR rl c) (cl.take (i+1)))=λc=>atC F c-wsum (gR rl c) (cl.take i)-p.2*gR rl c (word x.1.1):=funext λc=>by
   have :wsum (gR rl c) (cl.take (i+1))=wsum (gR rl c) (cl.take i)+p.2*gR rl c p.1:=by
    rw[take_succ_get hp];simp[wsum,List.sum_append_int]
   rw[this,e];exact adH
  rw[e2]
  refine Sn.mono bt λj v h=>?_
  by_cases q:j=34
  ·subst q;exact h
  ·have h':L.lookup j=some v:=by rw[bG,bu.2 q]at h;exact h
   exact lk (lk (lk (lk h' (bu.2 q)) (M8 f35 h')) (M8 f15 h')) (bu.2 q)
 rw[il,<-e1]at lp
 exact lp
end
section
variable{n:Nat} {K K':HK} {L L':aE}
noncomputable abbrev Lg:=List (ar×Int×Int)
noncomputable def i5 (l:Lg):aG:=l.map (·.1)
noncomputable def qd (l:Lg):aq:=l.map λp=>.tup [.int p.2.1,.int p.2.2]
noncomputable def J6:Lg->ar->Option (Int×Int)
 |[],_=>none
 |p::r,w=>if p.1=w then some p.2 else J6 r w
def xF (l:Lg) (w:ar):Int×Int:=(J6 l w).getD (0,0)
noncomputable def fh:Lg->ar->Int->Lg
 |[],w,a=>[(w,a,1)]
 |p::r,w,a=>if p.1=w then(p.1,p.2.1+a,p.2.2+1)::r else p::fh r w a
theorem Hd (w:ar):∀l:Lg,cz (i5 l) (qd l) w=(J6 l w).map λq=>.tup [.int q.1,.int q.2]:=by
 intro xx
 induction xx with
 |nil=>
  exact rfl
 |cons p r ih=>
  show(if p.1=w then _ else cz (i5 r) (qd r) w)=Option.map _ (if p.1=w then _ else J6 r w)
  by_cases q:p.1=w
  ·rw[ag q,ag q];rfl
  ·rw[af q,af q];exact ih
theorem Hc (w:ar) (a:Int):∀l:Lg,bM (i5 l) (qd l) w (.tup [.int ((xF l w).1+a),.int ((xF l w).2+1)])=(i5 (fh l w a),qd (fh l w a)):=by
 intro xx
 induction xx with
 |nil=>
  show([w],[V.tup [.int (0+a),.int (0+1)]])=([w],[V.tup [.int a,.int 1]])
  rw[iF,iF]
 |cons p r ih=>
  have ih:=ih
  by_cases q:p.1=w
  ·have e:xF (p::r) w=p.2:=ak (Option.getD · (0,0)) (ag q:J6 (p::r) w=some p.2)
   rw[e,show fh (p::r) w a=(p.1,p.2.1+a,p.2.2+1)::r from ag q]
   exact ag q
  ·have e:xF (p::r) w=xF r w:=ak (Option.getD · (0,0)) (af q:J6 (p::r) w=J6 r w)
   rw[e,show fh (p::r) w a=p::fh r w a from af q]
   refine(oQ (a:=p.1) (ks:=i5 r) (l:=qd r) q).trans ?_
   rw[ih];rfl
theorem L5 (w:ar) (a:Int) (l:Lg):kD (i5 l,qd l) [(w,.tup [.int a,.int 1])]=some (i5 (fh l w a),qd (fh l w a)):=by
 show(eX (i5 l,qd l) (w,.tup [.int a,.int 1])).bind some=_
 have s:=Hc w a l
 unfold eX
 rw[Hd]
 unfold xF at s
 cases e:J6 l w with
 |none=>
  rw[e]at s
  simp only[Option.getD_none,iF]at s
  exact ak some s
 |some u=>
  rw[e]at s
  simp only[oy]at s
  show((uL (.tup [.int a,.int 1]) (.tup [.int u.1,.int u.2])).map _).bind some=_
  rw[show uL (.tup [.int a,.int 1]) (.tup [.int u.1,.int u.2])=some (.tup [.int (a+u.1),.int (1+u.2)])from rfl,Int.add_comm a,Int.add_comm 1]
  exact ak some s
structure xO (N:Nat) (l:Lg):Prop where
 nd:(i5 l).Nodup
 sh:∀k∈i5 l,k.length<=100
 le:l.length<=N
theorem vR (w:ar) (a:Int):∀l:Lg,i5 (fh l w a)=if w∈i5 l then i5 l else i5 l++[w]:=by
 intro xx
 induction xx with
 |nil=>
  exact rfl
 |cons p r ih=>
  have ih:=ih
  by_cases q:p.1=w
  ·rw[show fh (p::r) w a=(p.1,p.2.1+a,p.2.2+1)::r from ag q,ag (q▸cV)];rfl
  ·rw[show fh (p::r) w a=p::fh r w a from af q]
   show p.1::i5 (fh r w a)=if w∈p.1::i5 r then p.1::i5 r else p.1::i5 r++[w]
   rw[ih]
   by_cases z:w∈i5 r
   ·rw[ag z,ag (b9 _ z)]
   ·rw[af z,af λh=>(aC.1 h).elim (λe=>q e.symm) z,kP]
theorem xO.add {N:Nat} {l:Lg} (h:xO N l) {w:ar} (hw:w.length<=100) (a:Int):xO (N+1) (fh l w a):=by
 have e:=vR w a l
 have l1:(fh l w a).length=(i5 (fh l w a)).length:=(aD _).symm
 have l2:(i5 l).length=l.length:=aD _
 have hl:=h.le
 by_cases q:w∈i5 l
 ·rw[ag q]at e
  exact⟨e▸h.nd,e▸h.sh,by rw[l1,e];exact adG l2 hl⟩
 ·rw[af q]at e
  refine⟨?_,?_,?_⟩
  ·rw[e,jc]
   exact⟨h.nd,fZ.2 ⟨bh,gy⟩,λa ha b hb e=>q (a7.1 hb▸e▸ha)⟩
  ·rw[e];exact λk hk=>(bF.1 hk).elim (h.sh k) λhk=>a7.1 hk▸hw
  ·rw[l1,e,bH,eA];exact adF l2 hl
theorem qA (l:Lg):(i5 l).length=(qd l).length:=by simp[i5,qd]
theorem L7 {N:Nat} {l:Lg} (h:xO N l) (hN:N<=100) {w:ar} (hw:w.length<=100) (a:Int):Fn K fQ [.eK (i5 l) (qd l),.eK [w] [.tup [.int a,.int 1]]] (.eK (i5 (fh l w a)) (qd (fh l w a))):=
 oZ _ _ _ _ (i5 (fh l w a),qd (fh l w a)) (qA l) rfl h.nd (by have :=h.le;show(i5 l).length+1<500;rw[i5,aD];exact adE hN this) (aI.2 λk hk=>decide_eq_true (aA (h.sh k hk) (by decide))) (aI.2 λk hk=>by cases a7.1 hk;exact decide_eq_true (aA hw (by decide))) (L5 w a l)
theorem ER {l:Lg} {N:Nat} (h:xO N l) (hN:N<=100) {ml:Nat} {w:ar} {a:Int} {i j:D} (hn:∀p∈K,p.1≠ml) (h32:L.lookup 32=some (.ref ml)) (hw:∀{K:HK} {L':aE},(∀v,L.lookup 18=some v->L'.lookup 18=some v)->Ev 56 K L' i (.str w)) (ha:∀{L':aE},(∀k v,(k=2\/k=7)->L.lookup k=some v->L'.lookup k=some v)->Ev 56 ((ml,Is (.dict (i5 l) (qd l)))::K) L' j (.int a)) (f36:L.lookup 36=none):
  SK 56 ((ml,Is (.dict (i5 l) (qd l)))::K) L (ax (ba (ah 36) (bC xK nT (aa 32) (ae i (ae (bb (ae (dC (.int 0)) (ae (dC (.int 0)) az))) az))))
 (ax (jM (aa 32) i (bb (ae (aB addW (aH (aa 36) (dC (.int 0))) j) (ae (aB addW (aH (aa 36) (dC (.int 1))) (dC (.int 1))) az)))) aT)) ((ml,Is (.dict (i5 (fh l w a)) (qd (fh l w a))))::K) L:=by
 have gt:∀H,H[ml]?=some (some (.dict (i5 l) (qd l)))->nT H (.ref ml) [.str w,.tup [.int 0,.int 0]]=some (.tup [.int (xF l w).1,.int (xF l w).2],H):=λH hH=>by
  have e:CG H (.ref ml) [.str w,.tup [.int 0,.int 0]]=some (.tup [.int (xF l w).1,.int (xF l w).2],H):=aR (x:=rK _) rfl (aR (x:=nP _) rfl (aR (x:=rS H (.ref ml)) (iE hH) ((ag (qA l)).trans (by
   rw[Hd];unfold xF
   cases J6 l w<;>rfl))))
  show Option.or (CG H _ _) _=_
  rw[e];rfl
 refine SK.seq (Sn.fH (v:=.tup [.int (xF l w).1,.int (xF l w).2]) (by decide) (.FR (x:=.ref ml) (.var h32) (.and (hw λv e=>e) (.and (.tup (.and .con (.and .con .no)) (ay rfl)) .no)) (λH h=>⟨H,gt H h.at,h⟩) λH h=>?_)).k ?_
 ·show(isD H (.ref ml)||_)=true
  rw[show isD H (.ref ml)=true from ak Option.isSome (iE h.at)];rfl
 ·refine SK.mono (SK.seq (SK.store (m:=ml) (x:=.ref ml) (y:=.str w) (v:=.tup [.int ((xF l w).1+a),.int ((xF l w).2+1)]) (.tup (.and (.bin (.idx (x:=.tup [.int (xF l w).1,.int (xF l w).2]) (y:=.int 0) (.var rfl) .con λH U=>rfl) (ha λk v hk e=>?_) rfl) (.and (.bin (.idx (x:=.tup [.int (xF l w).1,.int (xF l w).2]) (y:=.int 1) (.var rfl) .con λH U=>rfl) .con rfl) .no)) (ay rfl)) (.var (lk h32 rfl)) (hw λv e=>lk e rfl) hn λH hH=>?_) Sn.fin.k) λk v e=>lk e (M8 f36 e)
  ·rcases hk with rfl|rfl<;>exact lk e rfl
  ·rw[pj hH (qA l) (by have :=h.le;rw[i5,aD];exact adD hN this),Hc]
end
section
variable{n:Nat} {K K':HK} {L L':aE}
theorem abu {H:aj} (x:M):mG H x.v x.v=some false:=by
 have o:jl 8 (cR H x.v)=true:=by kernel_rfl
 refine zN ((xV o o).trans ?_)
 show some (!((x.1:Int)==x.1&&((x.2.1:Int)==x.2.1&&((x.2.2:Int)==x.2.2&&true))))=_
 simp only[beq_self_eq_true];rfl
theorem abv {H:aj} (x:M) (k:Int):mG H (.tup [.int x.1,.int x.2.1,.int x.2.2,.int k]) (.tup [.int x.1,.int x.2.1,.int x.2.2,.int k])=some false:=by
 have o:jl 8 (cR H (.tup [.int x.1,.int x.2.1,.int x.2.2,.int k]))=true:=by kernel_rfl
 refine zN ((xV o o).trans ?_)
 show some (!((x.1:Int)==x.1&&((x.2.1:Int)==x.2.1&&((x.2.2:Int)==x.2.2&&(k==k&&true)))))=_
 simp only[beq_self_eq_true];rfl
theorem X4 {H:aj}:mG H (.eK [] []) (.eK [] [])=some false:=by kernel_rfl
structure mQ (ks:Ky) (F:M->M) (top pick:Nat) (rl:List k5):Prop where
 o:jX ks
 t:top=3\/top=4
 lo:∀x,dg (F x)=dg x
 dn:∀m,dg m<=top->dn (lC pick rl) m=F m
 ru:FH (Wt ks) (rl.map (·.1))
 ok:∀x∈rl,iW x
 nd:(Cp rl).Nodup
 le:rl.length<=1000
variable{ks:Ky} {F:M->M} {top pick:Nat} {rl:List k5}
def D5 (pick:Nat) (rl:List k5) (m:M):Cl:=D4 [] (te (lC pick rl) 15 m)
theorem mQ.mem (f:mQ ks F top pick rl) {m:M}:∀ρ∈te (lC pick rl) 15 m,∃x∈rl,x.1=ρ:=λρ h=>by
 refine x3 (aY.1 ((uO pick rl ρ).mp (P_ 15 m ρ h))) λx hx e=>?_
 exact⟨x,hx,e⟩
theorem mQ.cl (f:mQ ks F top pick rl) {m:M}:eN 20 (D5 pick rl m):=by
 refine(T6 _ [] 0 (λρ h=>?_) eN.nil).mono (by have :=K3 (lC pick rl) 15 m;exact adC this)
 obtain⟨x,hx,rfl⟩:=f.mem ρ h
 have :=dH.1 (f.ok x hx).l;exact FG this.2
theorem mQ.ky (f:mQ ks F top pick rl) {m:M}:∀p∈D5 pick rl m,∃x∈rl,p.1=word x.1.1:=λp h=>by
 rcases MO _ [] p h with h|⟨ρ,h,e⟩
 ·cases h
 ·obtain⟨x,hx,rfl⟩:=f.mem ρ h
  exact⟨x,hx,e⟩
theorem mQ.sum (f:mQ ks F top pick rl) {m:M} (hm:dg m<=top) {c:Int} (h0:0<=c) (h2:c<=2):atC (F m) c=atC m c+wsum (gR rl c) (D5 pick rl m):=by
 rw[<-f.dn m hm,D5,HU]
 refine(P' h0 h2 15 m).trans ?_
 show _=atC m c+(0+_)
 rw[iF,jg (g:=λρ:Rl=>gR rl c (word ρ.1)) λρ h=>by
  obtain⟨x,hx,rfl⟩:=f.mem ρ h
  exact((Be f.nd hx).2 c).symm]
theorem mQ.nil (f:mQ ks F top pick rl) {m:M} (hm:dg m<=top):(qf (D5 pick rl m)==0)=decide (F m=m):=by
 have t:=KZ (BS ks) (λρ h=>f.ru ρ ((uO pick rl ρ).mp h):FH (Wt ks) (lC pick rl)) 15 m
 have e:qf (D5 pick rl m)=(te (lC pick rl) 15 m).length:=by
  rw[D5,K6];exact iF _
 rw[e,iu,beq_iff_eq,kT,<-f.dn m hm,Int.natCast_eq_zero]
 exact t
noncomputable def K4 (mf top:Nat) (F:M->M) (ns:List Int):HK:=[(6,eO),(mf,Is (.list (cY top F))),(3,Is (qj ns)),(4,Is (.list [])),(1,Is (.gb false))]
noncomputable def KQ (ml mf top:Nat) (F:M->M) (ns:List Int) (l:Lg):HK:=(ml,Is (.dict (i5 l) (qd l)))::K4 mf top F ns
def lZ (ml mf top pick:Nat) (rl:List k5):aE:=[(32,.ref ml),(30,Fo rl),(25,.ref mf),(22,.lst (rl.map rv)),(10,.int pick),(9,.int top),(6,.ref 6),(3,.ref 4),(2,.ref 3)]
variable{ml mf:Nat} {ns:List Int} {l:Lg} {m:M} {i:Nat}
theorem Ji (hm:dg m<=top) (Cu:L.lookup 25=some (.ref mf)) (OP:L.lookup 21=some m.v) (hd:dg m<=100):Sn 56 (KQ ml mf top F ns l) L (gD 18 33 (bb (ae (aH (aH (aa 25) (a5 g0 (ae (aa 21) az))) (aN aU (ae (aa 21) az))) (ae (aB addW (aa 21) (bb (ae (a5 g0 (ae (aa 21) az)) (ae lj az)))) az)))) ((18,(F m).v)::(33,ent m (dg m) [])::L):=
 .swap (by decide) (by decide) (.tup (.and (vo hm (.tail _ (.tail _ (.head _))) (.var Cu) (rR OP) (.cM (.and (.var OP) .no) (fV (iQ.v m) hd))) (.and (yC OP) .no)) (ay rfl))
theorem MI (f:mQ ks F top pick rl) (hm:dg m<=top) (h2:2<=dg m) (n6:ml≠6/\mf≠6) (h33:L.lookup 33=some (ent m (dg m) [])) (h22:L.lookup 22=some (.lst (rl.map rv))) (OS:L.lookup 10=some (.int pick)) (h3:L.lookup 3=some (.ref 4)) (h6:L.lookup 6=some (.ref 6)):Sn 56 (KQ ml mf top F ns l) L (ba (ah 29) (aN gv (ae (aa 33) (ae (aa 22) (ae (aa 10) (ae (aa 3) (ae (aa 6) az))))))) ((29,ent (F m) (dg m) (D5 pick rl m))::L):=by
 have t:=f.t
 have d:=(DJ (ma:=6) (K:=(ml,Is (.dict (i5 l) (qd l)))::(K4 mf top F ns).tail) (λp hp=>by
  simp only[K4,List.tail_cons,aC,bh,or_false]at hp
  rcases hp with rfl|rfl|rfl|rfl|rfl
  ·exact n6.1
  ·exact n6.2
  ·exact(by decide:3≠6)
  ·exact(by decide:4≠6)
  ·exact(by decide:1≠6)) (dH.2 ⟨h2,by exact adB t hm⟩) eN.nil (by decide) (rQ.l rl) f.ok f.le pick (.ref 4) (k:=dg m)).pm (K1:=KQ ml mf top F ns l) pU
 have e:=f.dn m hm
 unfold lC at e
 rw[e]at d
 exact .fH (by decide) (.cM (.and (.var h33) (.and (.var h22) (.and (.var OS) (.and (.var h3) (.and (.var h6) .no))))) d)
theorem Ll (f:mQ ks F top pick rl) (hm:dg m<=top) (h29:L.lookup 29=some (ent (F m) (dg m) (D5 pick rl m))) (h18:L.lookup 18=some (F m).v) (OP:L.lookup 21=some m.v) (h34:L.lookup 34=some m.v) (h33:L.lookup 33=some (ent m (dg m) [])):j_ 56 K L (iV (aS mG (cS (aa 29) ti (dP (dC (.int 4)))) (aB addW (aa 18) (bb (ae (a5 g0 (ae (aa 21) az)) az)))) (iV (aS mG (aa 34) (aa 21)) (iV (aS mG (aH (aa 33) (dC (.int 4))) lj) (iV (aS fy (mM eqZ (aN fP (ae (aH (aa 29) (dC (.int 4))) az)) (dC (.int 0))) (mM eqZ (aa 18) (aa 21))) tm)))) false:=by
 refine .or (c:=false) (.cmp (.slice (i:=none) (j:=some 4) (.var h29) .p0 (.p .con) λH U=>(by kernel_rfl:kr H (ent (F m) (dg m) (D5 pick rl m)) none (some 4)=some (.tup [.int (F m).1,.int (F m).2.1,.int (F m).2.2,.int (dg m)]))) (.bin (.var h18) (.tup (.and (rR OP) .no) (ay rfl)) (by kernel_rfl:addW (F m).v (.tup [.int (dg m)])=some (.tup [.int (F m).1,.int (F m).2.1,.int (F m).2.2,.int (dg m)]))) λH U=>abv _ _) λU=>.or (c:=false) (.cmp (.var h34) (.var OP) λH U=>abu m) λU=>.or (c:=false) (.cmp (x:=.eK [] []) (y:=.eK [] []) (.idx (.var h33) .con λH U=>rfl) .Kx λH U=>X4) λU=>.or (c:=false) (.cmp (x:=.bool (qf (D5 pick rl m)==0)) (y:=.bool (decide (F m=m))) (.cmp (x:=.int (qf (D5 pick rl m))) (y:=.int 0) (.cM (.and (.idx (.var h29) .con λH U=>rfl) .no) (count_is _)) .con λH U=>zX yA) (.cmp (.var h18) (.var OP) λH U=>PA _ _) λH U=>?_) λU=>.or0
 rw[f.nil hm]
 simp only[qH,mi]
theorem G4 (hn:ns.length=15) (hk:(3,Is (qj ns))∈K) (h2:L.lookup 2=some (.ref 3)) (h7:L.lookup 7=some (.int i)):Ev 56 K L (aH (aa 2) (aB fw (aa 7) (dC (.int 15)))) (.int (ns.getD (i %15) 0)):=
 .idx (.var h2) (.bin (.var h7) .con (eG i 15 (by decide))) λH h=>Dz (by have :=d_ i (show 0<15 by decide);omega) (h.is hk)
def J5 (top:Nat) (F:M->M) (ns:List Int) (l:Lg) (m:M) (i:Nat):Lg:=if dg m=top then fh l (word (F m)) (ns.getD (i %15) 0)else l
theorem zone {a:V} {L:aE} {k:Nat} {v:V} (e:((31,a)::lZ ml mf top pick rl).lookup k=some v) (h:∀j,j∈[31,32,30,25,22,10,9,6,3,2]->L.lookup j=((31,a)::lZ ml mf top pick rl).lookup j):L.lookup k=some v:=by
 refine(h k ?_).trans e
 have :=List.mem_map_of_mem (f:=Prod.fst) (lookup_mem e)
 exact this
theorem EE (f:mQ ks F top pick rl) {N:Nat} (lk0:xO N l) (hN:N<=100) (Fq:ns.length=15) (hm:dg m<=top) (h2:2<=dg m) (n6:ml≠6/\mf≠6) (nl:∀p∈K4 mf top F ns,p.1≠ml):
  SK 56 (KQ ml mf top F ns l) ([(21,m.v),(7,.int i)]++(31,.eK (i5 l) (qd l))::lZ ml mf top pick rl) wR (KQ ml mf top F ns (J5 top F ns l m i)) ((31,.eK (i5 (J5 top F ns l m i)) (qd (J5 top F ns l m i)))::lZ ml mf top pick rl):=by
 have t:=f.t
 refine SK.seq (Ji hm rfl rfl (by exact PF t hm)).k (SK.seq (MI f hm h2 n6 rfl rfl rfl rfl rfl).k (SK.seq (Sn.fH (v:=(F m).v) (by decide) (.slice (i:=none) (j:=some 3) (.var rfl) .p0 (.p .con) λH U=>(by kernel_rfl:kr H (ent (F m) (dg m) (D5 pick rl m)) none (some 3)=some (F m).v))).k (SK.seq (MU f.nd f.ok f.cl f.ky (λc h0 h2=>f.sum hm h0 h2) rfl rfl rfl rfl).k ?_)))
 refine SK.seq (SK.ite (Ll f hm rfl rfl rfl rfl rfl) nofun λU=>Sn.fin.k) ?_
 refine SK.seq (SK.ite (c:=decide (dg m=top)) (.cmp (x:=.int (dg m)) (y:=.int top) (rR rfl) (.var rfl) λH U=>zX (yA.trans (ak some ?_))) (λh=>?_) λh=>?_) Sn.fin.k
 ·rw[iu,beq_iff_eq,kT];exact acp
 ·have e:J5 top F ns l m i=fh l (word (F m)) (ns.getD (i %15) 0):=ag (of_decide_eq_true h)
  rw[e]
  have wl:(word (F m)).length<=100:=by rw[d7,f.lo];exact PF t hm
  have hd:dg (F m)<=100:=by rw[f.lo];exact PF t hm
  refine SK.seq (Sn.fH (v:=.eK (i5 (fh l (word (F m)) (ns.getD (i %15) 0))) (qd (fh l (word (F m)) (ns.getD (i %15) 0)))) (by decide) (.cM (.and (.var rfl) (.and (.F3 (ps:=[(word (F m),.tup [.int (ns.getD (i %15) 0),.int 1])]) (.cons (.cM (.and (.var rfl) .no) (fV (iQ.ent _ _ _) hd)) (.tup (.and (G4 Fq (.tail _ (.tail _ (.tail _ (.head _)))) rfl rfl) (.and .con .no)) (ay rfl)) .nil) (ay rfl)) .no)) (L7 lk0 hN wl _))).k ?_
  refine SK.mono (ER lk0 hN (w:=word (F m)) (a:=ns.getD (i %15) 0) nl rfl (λhv=>.cM (.and (.var (hv _ rfl)) .no) (fV (iQ.v _) hd)) (λhv=>G4 Fq (.tail _ (.tail _ (.tail _ (.head _)))) (hv 2 _ (.inl rfl) rfl) (hv 7 _ (.inr rfl) rfl)) rfl) λk v e=>?_
  exact zone e (λj hj=>by
   simp only[aC,bh,or_false]at hj
   rcases hj with rfl|rfl|rfl|rfl|rfl|rfl|rfl|rfl|rfl|rfl<;>rfl)
 ·have e:J5 top F ns l m i=l:=af (of_decide_eq_false h)
  rw[e]
  exact SK.mono Sn.fin.k λk v e=>zone e (λj hj=>by
   simp only[aC,bh,or_false]at hj
   rcases hj with rfl|rfl|rfl|rfl|rfl|rfl|rfl|rfl|rfl|rfl<;>rfl)
end
section
variable{n:Nat} {K K':HK} {L L':aE}
variable{ks:Ky} {F:M->M} {top pick:Nat} {rl:List k5} {ml mf:Nat} {ns:List Int} {l:Lg} {m:M} {i:Nat}
theorem HY (ht:top=3\/top=4):∀m∈whole top,2<=dg m/\dg m<=top:=λm h=>by
 unfold whole at h
 rcases ht with rfl|rfl
 ·rw[ag rfl]at h
  simp only[bF,eD]at h;exact adA h
 ·rw[af (by decide)]at h;exact dH.1 h
theorem w_ (ht:top=3\/top=4):(whole top).length<=31:=by
 rcases ht with rfl|rfl<;>decide
def J4 (top:Nat) (F:M->M) (ns:List Int):Nat->Lg
 |0=>[]
 |i+1=>J5 top F ns (J4 top F ns i) ((whole top).getD i (0,0,0)) i
set_option tactic.hygienic true in
theorem NJ (f:mQ ks F top pick rl):∀i,i<=(whole top).length->xO i (J4 top F ns i)/\∀k∈i5 (J4 top F ns i),∃m,k=word m:=by
 intro xx
 induction xx with
 |zero=>
  intro _
  exact⟨⟨gy,nofun,aF _⟩,nofun⟩
 |succ i ih=>
  intro h
  obtain⟨o,w⟩:=ih (by exact Wq h)
  show xO (i+1) (J5 top F ns _ _ i)/\∀k∈i5 (J5 top F ns _ _ i),_
  unfold J5
  split
  ·rename_i e
   have t:=f.t
   refine⟨o.add (by rw[d7,f.lo];exact adz t e) _,λk hk=>?_⟩
   rw[vR]at hk
   split at hk
   ·exact w k hk
   ·exact(bF.1 hk).elim (w k) λhk=>⟨_,a7.1 hk⟩
  ·exact⟨⟨o.nd,o.sh,Nat.le_succ_of_le o.le⟩,w⟩
theorem B0 (f:mQ ks F top pick rl) (Fq:ns.length=15) (n6:ml≠6/\mf≠6) (nl:∀p∈K4 mf top F ns,p.1≠ml) (Ve:L.lookup 23=some (.lst ((whole top).map M.v))) (hL:∀k v,((31,V.eK [] [])::lZ ml mf top pick rl).lookup k=some v->L.lookup k=some v):
  SK 56 (KQ ml mf top F ns []) L (gJ (nA (aa 23)) (bx (ao (ah 7) (ao (ah 21) bf))) wR) (KQ ml mf top F ns (J4 top F ns (whole top).length)) ((31,.eK (i5 (J4 top F ns (whole top).length)) (qd (J4 top F ns (whole top).length)))::lZ ml mf top pick rl):=by
 have wl:=w_ f.t
 have lp:=SK.loop (n:=56) (K:=KQ ml mf top F ns []) (L:=L) (db:=wR) (da:=bx (ao (ah 7) (ao (ah 21) bf))) (l:=ny ((whole top).map M.v)) (.enum (.var Ve)) (λi=>(31,.eK (i5 (J4 top F ns i)) (qd (J4 top F ns i)))::lZ ml mf top pick rl) (λi=>KQ ml mf top F ns (J4 top F ns i)) hL rfl λi x hx=>by
  obtain⟨hi,rfl⟩:=Aj hx
  rw[aD]at hi
  have e:((whole top).map M.v).getD i .none=((whole top).getD i (0,0,0)).v:=by
   rw[dK,aQ,dK,bZ hi];rfl
  have hm:(whole top).getD i (0,0,0)∈whole top:=by
   rw[dK,bZ hi];exact md _
  have d:=HY f.t _ hm
  rw[e]
  exact⟨_,Tg.two (by decide) (by decide),EE f (NJ f i (by exact Wh hi)).1 (by exact ady hi wl) Fq d.2 d.1 n6 nl⟩
 have e:(ny ((whole top).map M.v)).length=(whole top).length:=by simp[ny]
 rw[e]at lp
 exact lp
theorem SK.ab2 {k m:Nat} {ks:aG} {l:aq} {o:bJ} {d:DS} (hk:k<n) (h:SK n ((m,Is o)::K) L d ((m,Is (.dict ks l))::K) L') (ho:L'.lookup k=some (.ref m)) (hn:∀p∈K,p.1≠m):SK n ((m,Is o)::K) L (tn k d) K ((k,.eK ks l)::L'):=λH loc hh hl=>by
 refine x5 (h H loc hh hl) λH1 l1 e1 h1 pN=>?_
 exact⟨H1.set m .none,l1.set k (some (.eK ks l)),aR e1 (gH (x:=Internal.Ni k ⟨H1,l1⟩) (aR (ak Option.join (pN.2 k _ ho)) (gH (N0 h1.at)))),h1.drop.set m .none hn,pN.set k _ hk⟩
theorem X3 {H:aj} (w:ar):mG H (.eK [w] [.int 1]) (.eK [w] [.int 1])=some false:=by
 have e1:J3 H (.eK [w] [.int 1]) (.eK [w] [.int 1])=none:=rfl
 have e2:zc not H (.eK [w] [.int 1]) (.eK [w] [.int 1])=none:=rfl
 have s:qq (.eK [w] [.int 1]) (.eK [w] [.int 1])=true:=by
  show(([w]==[w])&&jo 7 [V.int 1]&&jo 7 [V.int 1]&&AZ [V.int 1] [V.int 1])=true
  rw[beq_self_eq_true];rfl
 have e3:UK not H (.eK [w] [.int 1]) (.eK [w] [.int 1])=some false:=by
  show(if[w].length=[w].length then(if qq (.eK [w] [.int 1]) (.eK [w] [.int 1])=true then some (not true)else none)else some (not false))=_
  rw[s];rfl
 simp only[mG,AQ,e1,e2,e3,Option.none_or]
theorem aao (ok:∀x∈rl,iW x) (nd:(Cp rl).Nodup) (Nc:L.lookup 30=some (Fo rl)) (le:rl.length<=1000):Ev n K L (fS C9) (.lst []):=by
 have j:jL [none,none,some 30] L=[(2,Fo rl)]:=by simp[jL,List.zipIdx,Nc]
 have c:=Ev.aaf (n:=n) (K:=K) (L:=L) (js:=[none,none,some 30]) (k:=1) (di:=cI (aa 30)) (dt:=aS mG (aH (aH (aa 2) (aa 1)) (dC (.int 4))) (nU (mL (aa 1) (dC (.int 1)) uq))) (de:=aa 1) (l:=(Cp rl).map .str) (λU=>false) (λU=>.none) (.iter (.var Nc) (ag ⟨by rw[Cp,aD,aD],aI.2 λk hk=>by
  obtain⟨x,hx,rfl⟩:=aY.1 hk
  have :=dH.1 (ok x hx).l
  exact decide_eq_true (by rw[d7];exact aco this.2)⟩)) (by rw[aD,Cp,aD];exact Wk le) (by decide) (by rw[j];rfl) (λy hy=>by
  obtain⟨w,hw,rfl⟩:=aY.1 hy
  obtain⟨x,hx,rfl⟩:=aY.1 hw
  rw[j]
  exact .cmp (.idx (x:=dq x.1) (.idx (x:=Fo rl) (y:=.str (word x.1.1)) (.var rfl) (.var rfl) λH U=>(Be nd hx).1) .con λH U=>rfl) (.F3 (.cons (.var rfl) .con .nil) (ay rfl)) λH U=>X3 _) nofun
 rw[List.filter_eq_nil_iff.2 λa U=>eW]at c
 exact c
theorem Ev.VK {a:D} {ks:aG} {l:aq} (h:Ev n K L a (.eK ks l)) (e:ks.length=l.length) (s:fO ks=true) (b:ks.length<=1048576):Ev n K L (qr a) (.lst (cQ ks l)):=λH loc hh hl=>by
 refine x3 (h H loc hh hl) λH1 e1 h1=>?_
 exact⟨H1,aR e1 (aR (x:=AY (.eK ks l)) rfl (ag ⟨e,s,b⟩)),h1⟩
theorem IX (l:Lg):cQ (i5 l) (qd l)=l.map λp=>.tup [.str p.1,.tup [.int p.2.1,.int p.2.2]]:=by
 unfold cQ i5 qd
 rw[List.zip_map',br];rfl
theorem L6 {l:Lg} (h:∀k∈i5 l,∃m,k=word m) {H:aj}:eqZ H (.lst (cQ (i5 l) (qd l))) (.lst (cQ (i5 l) (qd l)))=some true:=by
 rw[IX]
 have o:jo 7 (l.map λp=>V.tup [.str p.1,.tup [.int p.2.1,.int p.2.2]])=true:=EJ λv hv=>by
  obtain⟨p,hp,rfl⟩:=aY.1 hv
  obtain⟨m,e⟩:=h p.1 (aY.2 ⟨p,hp,rfl⟩)
  rw[vd,d9,d9,n7,aI.2 λc hc=>decide_eq_true (by
   rw[e]at hc;have :=De c hc;exact adx this.2)];rfl
 refine zX ((DF o o).trans (ak some ?_))
 clear o h
 induction l with
 |nil=>rfl
 |cons p r ih=>
  rw[bo,j7,ih,Bool.and_true]
  show(J1 (.str p.1) (.str p.1)&&((p.2.1==p.2.1&&(p.2.2==p.2.2&&true))&&true))=true
  rw[yn,beq_self_eq_true,beq_self_eq_true,beq_self_eq_true];rfl
theorem end_is (f:mQ ks F top pick rl) (hk:(4,Is (.list []))∈K) {N:Nat} (o:xO N l) (hN:N<=100) (hw:∀k∈i5 l,∃m,k=word m) (h3:L.lookup 3=some (.ref 4)) (Nc:L.lookup 30=some (Fo rl)) (h31:L.lookup 31=some (.eK (i5 l) (qd l))) (h32:L.lookup 32=some (.eK (i5 l) (qd l))):
  RK n K L (ax (j9 (iV (aS mG (aa 3) (eL az)) (iV (aS mG (fS C9) (eL az)) tm)) (ax (eB (dC (.bool false)))
 aT) aT)
 (ax (eB (mM eqZ (qr (aa 31)) (qr (aa 32))))
 aT)) K (.bool true):=by
 have sk:fO (i5 l)=true:=aI.2 λk hk=>decide_eq_true (aA (o.sh k hk) (by decide))
 have le:(i5 l).length<=1048576:=by have :=o.le;rw[i5,aD];exact adw hN this
 refine RK.seq (SK.ite (c:=false) (.or (c:=false) (.cmp (x:=.ref 4) (.var h3) (.lst .no (bN _)) λH h=>Dr (h.is hk)) λU=>.or (c:=false) (.cmp (aao f.ok f.nd Nc f.le) (.lst .no (bN _)) λH U=>by kernel_rfl) λU=>.or0) nofun λU=>Sn.fin.k) (RK.of (Rt.fst (.ret (.cmp (.VK (.var h31) (qA l) sk le) (.VK (.var h32) (qA l) sk le) λH U=>L6 hw))) λp hp=>hp)
end
section
variable{n:Nat} {K K':HK} {L L':aE}
def tl4:DS:=ax (ba (bx (ao (ah 30) (ao (ah 31) (ao (ah 32) bf)))) (bb (ae (fS C8) (ae lj (ae qs az)))))
 (ax (tn 32 (gJ (nA (aa 23)) (bx (ao (ah 7) (ao (ah 21) bf))) wR))
 (ax (j9 (iV (aS mG (aa 3) (eL az)) (iV (aS mG (fS C9) (eL az)) tm)) (ax (eB (dC (.bool false)))
 aT) aT)
 (ax (eB (mM eqZ (qr (aa 31)) (qr (aa 32))))
 aT)))
def tl3:DS:=ax (ba (ah 25) (Fu zL)) (ax (gJ (cI (aa 4)) (ah 12) wQ) tl4)
theorem Ii {rl:List k5} (nd:(Cp rl).Nodup) (ok:∀x∈rl,iW x) (le:rl.length<=1000) (h22:L.lookup 22=some (.lst (rl.map rv))):Ev n K L (fS C8) (Fo rl):=by
 have :=Ev.Of (n:=n) (K:=K) (L:=L) (di:=cI (aa 22)) (js:=[none,none,none,none,none]) (da:=bx (ao (ah 1) (ao (ah 2) (ao (ah 3) bf)))) (dk:=aN aU (ae (aa 2) az)) (dv:=aa 3) (rl.map λx=>(rv x,word x.1.1,dq x.1))
  (by rw[br];exact .iter (.var h22) rfl) (by rw[aD];exact le) (by rw[br];exact nd) λz hz=>by
   obtain⟨x,hx,rfl⟩:=aY.1 hz
   have d:=dH.1 (ok x hx).l
   refine⟨_,.tup (.cons (.var (by decide)) (.cons (.var (by decide)) (.cons (.var (by decide)) .nil))),λk hk=>?_,.cM (.and (.var rfl) .no) (fV (iQ.v x.1.1) (by exact FG d.2)),.var rfl⟩
   match k,hk with
   |0,hk=>cases hk
   |1,_|2,_|3,_=>rfl
   |k+4,hk=>cases hk
 rw[br,br]at this
 exact this
variable{ks:Ky} {F:M->M} {top pick:Nat} {rl:List k5} {mf:Nat} {ns:List Int}
theorem Qc (f:mQ ks F top pick rl) (Fq:ns.length=15) (n6:mf≠6) (Ve:L.lookup 23=some (.lst ((whole top).map M.v))) (hz:∀j,j∈[25,22,10,9,6,3,2]->L.lookup j=(lZ 0 mf top pick rl).lookup j) (H:aj) (loc:c8) (hh:bP (K4 mf top F ns) H) (hl:Loc 56 L loc):
  ∃H' a6,tl4 ⟨H,loc⟩=some (.ret (.bool true),⟨H',a6⟩)/\H'[1]?=some (some (.gb false)):=by
 refine x3 (Ii (n:=56) (K:=K4 mf top F ns) (L:=L) f.nd f.ok f.le ((hz 22 (by decide)).trans rfl) H loc hh hl) λH1 e1 h1=>?_
 have nl:=h1.ne (aF _)
 have h2:=h1.new (.dict [] [])
 have n6l:H1.length≠6:=λe=>nl (6,eO) (.head _) e.symm
 refine x3 ((Tg.tup (.cons (.var (by decide)) (.cons (.var (by decide)) (.cons (.var (by decide)) .nil))):Tg 56 (bx (ao (ah 30) (ao (ah 31) (ao (ah 32) bf)))) (.tup [Fo rl,.eK [] [],.ref H1.length]) _) (H1++[some (.dict [] [])]) loc L hl) λl2 e2 nB=>?_
 have a1:ba (bx (ao (ah 30) (ao (ah 31) (ao (ah 32) bf)))) (bb (ae (fS C8) (ae lj (ae qs az)))) ⟨H,loc⟩=some (.next,⟨H1++[some (.dict [] [])],l2⟩):=aR (aR (aR e1 rfl) rfl) (gH e2)
 generalize H1.length=ml at nl h2 n6l nB
 have wl:=w_ f.t
 have lo:=NJ (ns:=ns) f (whole top).length (aF _)
 have lp:SK 56 ((ml,Is (.dict [] []))::K4 mf top F ns) ([(32,.ref ml),(31,.eK [] []),(30,Fo rl)]++L) (tn 32 (gJ (nA (aa 23)) (bx (ao (ah 7) (ao (ah 21) bf))) wR)) _ _:=SK.ab2 (by decide) (B0 f Fq ⟨n6l,n6⟩ nl (lk (lk (lk Ve rfl) rfl) rfl) λk v e=>zone (ml:=ml) (mf:=mf) (top:=top) (pick:=pick) (rl:=rl) e λj hj=>by
  simp only[aC,bh,or_false]at hj
  rcases hj with rfl|rfl|rfl|rfl|rfl|rfl|rfl|rfl|rfl|rfl
  ·rfl
  ·rfl
  ·rfl
  ·exact(hz 25 (by decide)).trans rfl
  ·exact(hz 22 (by decide)).trans rfl
  ·exact(hz 10 (by decide)).trans rfl
  ·exact(hz 9 (by decide)).trans rfl
  ·exact(hz 6 (by decide)).trans rfl
  ·exact(hz 3 (by decide)).trans rfl
  ·exact(hz 2 (by decide)).trans rfl) rfl nl
 refine x5 (lp _ _ h2 nB) λH3 l3 e3 h3 wi=>?_
 refine x4 (end_is (n:=56) f (.tail _ (.tail _ (.tail _ (.head _)))) lo.1 (by exact adu wl) lo.2 rfl rfl rfl rfl H3 l3 h3 wi) λH4 l4 e4 h4=>?_
 exact⟨H4,l4,aR a1 (aR e3 e4),h4.is (.tail _ (.tail _ (.tail _ (.tail _ (.head _)))))⟩
theorem Qd {dr:eY} (hp:∀p∈dr,p.1∈PQ/\dg p.1=dg p.2) (hF:F=jq (Wt ks) _root_.id (dr.flatMap (cT top))) (f:mQ ks F top pick rl) (Fq:ns.length=15) (Ve:L.lookup 23=some (.lst ((whole top).map M.v))) (hz:∀j,j∈[22,10,9,6,3,2]->L.lookup j=(lZ 0 0 top pick rl).lookup j) (fr:Fr L) (h4:L.lookup 4=some (.lst (dr.map pV))) (OO:L.lookup 24=some .lam) (JR:L.lookup 37=some (rx ks)) (H:aj) (loc:c8) (hh:bP [(6,eO),(3,Is (qj ns)),(4,Is (.list [])),(1,Is (.gb false))] H) (hl:Loc 56 L loc):
  ∃H' a6,tl3 ⟨H,loc⟩=some (.ret (.bool true),⟨H',a6⟩)/\H'[1]?=some (some (.gb false)):=by
 have h9:L.lookup 9=some (.int top):=(hz 9 (by decide)).trans rfl
 refine x3 (E3 (n:=56) (K:=[(6,eO),(3,Is (qj ns)),(4,Is (.list [])),(1,Is (.gb false))]) f.t h9 H loc hh hl) λH1 e1 h1=>?_
 have ne:=h1.ne (aF _)
 have h2:=h1.new (.list (cY top _root_.id))
 have nB:=hl.set 25 (.ref H1.length) (by decide)
 have a1:ba (ah 25) (Fu zL) ⟨H,loc⟩=some (.next,⟨H1++[some (.list (cY top _root_.id))],loc.set 25 (some (.ref H1.length))⟩):=aR (x:=Fu zL ⟨H,loc⟩) (a:=(.ref H1.length,⟨H1++[some (.list (cY top _root_.id))],loc⟩)) ((ak (Option.map _) e1).trans rfl) rfl
 generalize H1.length=mf at ne h2 nB a1
 have cl:SK 56 ((mf,Is (.list (cY top _root_.id)))::[(6,eO),(3,Is (qj ns)),(4,Is (.list [])),(1,Is (.gb false))]) ((25,.ref mf)::L) (gJ (cI (aa 4)) (ah 12) wQ) _ _:=Ci f.o f.t hp ne ⟨fr.a,fr.b,fr.c,fr.d,fr.e⟩ (lk h4 rfl) (lk h9 rfl) (lk OO rfl) rfl (lk JR rfl)
 rw[<-hF]at cl
 refine x5 (cl _ _ h2 nB) λH3 l3 e3 h3 wi=>?_
 have h3:bP (K4 mf top F ns) H3:=bP.sub (λp hp=>(pU p).mpr hp) _ h3
 refine x4 (Qc (L:=(25,.ref mf)::L) f Fq (λe=>ne (6,eO) (.head _) e.symm) (lk Ve rfl) (λj hj=>by
  simp only[aC,bh,or_false]at hj
  rcases hj with rfl|rfl|rfl|rfl|rfl|rfl|rfl
  ·rfl
  ·exact(hz 22 (by decide)).trans rfl
  ·exact(hz 10 (by decide)).trans rfl
  ·exact(hz 9 (by decide)).trans rfl
  ·exact(hz 6 (by decide)).trans rfl
  ·exact(hz 3 (by decide)).trans rfl
  ·exact(hz 2 (by decide)).trans rfl) H3 l3 h3 wi) λH4 l4 e4 h4'=>?_
 exact⟨H4,l4,aR a1 (aR e3 e4),h4'⟩
end
section
variable{n:Nat} {K K':HK} {L L':aE}
theorem TU (cs:ar) (k:Nat):∀p∈th cs k,(p.1∈PQ/\p.2∈PQ)/\dg p.1=dg p.2:=λp hp=>by
 obtain⟨i,_,rfl⟩:=aY.1 hp
 have a:(drawn cs i).1∈PQ/\dg (drawn cs i).1=dD cs i:=t7 _
 have b:(drawn cs i).2∈PQ/\dg (drawn cs i).2=dD cs i:=t7 _
 exact⟨⟨a.1,b.1⟩,a.2.trans b.2.symm⟩
theorem Mx {ks:Ky} (o:jX ks) {top pick:Nat} (ht:top=3\/top=4) {dr:eY} (hd:∀p∈dr,(p.1∈PQ/\p.2∈PQ)/\dg p.1=dg p.2) {rl:List k5} (c:Cm (Wt ks) (jq (Wt ks) _root_.id (dr.flatMap (cT top))) top dr (rl.map (·.1)) []) (ok:∀x∈rl,iW x):mQ ks (jq (Wt ks) _root_.id (dr.flatMap (cT top))) top pick rl:=by
 have hT:∀t∈dr.flatMap (cT top),t.1∈dr/\dg t.2+dg t.1.1<=top/\dg t.1.1=dg t.1.2:=λt h=>by
  refine x3 (f6.1 h) λp h1 h2=>?_
  obtain⟨e,h3⟩:=mA.1 h2
  rw[e];exact⟨h1,h3,(hd p h1).2⟩
 have fi:=FI.fold (dr.flatMap (cT top)) _root_.id [] (FI.start (Wt ks)) λt h=>(hT t h).2.2
 rw[jA]at fi
 have ct:=c.ct
 rw[aD]at ct
 refine⟨o,ht,λx=>(fi.lo x).1,λm hm=>settled c fi hT (by exact PJ ht) (BS ks) (uO pick rl) hm,c.ru,ok,?_,by exact adt ct⟩
 have :=c.nd
 rw[br]at this
 have e:Cp rl=(rl.map λx=>x.1.1).map word:=by rw[br];rfl
 rw[e]
 exact List.Pairwise.map word (λx y h e=>h (qC e)) this
theorem Ik {W:M->Int} {top:Nat} (ht:top=3\/top=4) {dr:eY} (hd:∀p∈dr,(p.1∈PQ/\p.2∈PQ)/\dg p.1=dg p.2):Cm W (jq W _root_.id (dr.flatMap (cT top))) top dr [] dr:=by
 have fi:=FI.fold (dr.flatMap (cT top)) _root_.id [] (FI.start W) λt h=>by
  refine x3 (f6.1 h) λp h1 h2=>?_
  rw[(mA.1 h2).1];exact(hd p h1).2
 rw[jA]at fi
 refine Cm.start λp hp=>⟨(hd p hp).2,by have :=wZ (hd p hp).1.1;exact ads this ht,λq hq=>?_⟩
 have :=fi.eq (p,q) (f6.2 ⟨p,hp,mA.2 ⟨rfl,hq⟩⟩)
 rw[t8 q,t8 q]
 exact this
def tl2:DS:=ax (gD 22 23 (bb (ae (aN gA (ae (aa 5) (ae (aa 37) (ae (aa 9) (ae (aa 10) (ae (aa 3) (ae (aa 6) az))))))) (ae (fS yh) az)))) (ax (Ec 24) tl3)
theorem Qe {cs:ar} {ns:List Int} (Fq:ns.length=15) {mw:Nat} (hn:∀p∈KP cs ns,p.1≠mw) {k:Nat} (hk:k<=10) (JR:L.lookup 37=some (rx (wW cs))) (hz:∀j,j∈[10,9,6,5,4,3,2]->L.lookup j=(lP cs mw (th cs k)).lookup j) (fr:Fr L) (H:aj) (loc:c8) (hh:bP ((mw,mF (th cs k))::KP cs ns) H) (hl:Loc 56 L loc):
  ∃H' a6,tl2 ⟨H,loc⟩=some (.ret (.bool true),⟨H',a6⟩)/\H'[1]?=some (some (.gb false)):=by
 have M7:jG cs=3\/jG cs=4:=by unfold jG;omega
 have o:=I5 cs
 have hd:=TU cs k
 have dl:(th cs k).length=k:=by rw[th,aD,ez]
 have v:∀{j:Nat} {v:V},j∈[10,9,6,5,4,3,2]->(lP cs mw (th cs k)).lookup j=some v->L.lookup j=some v:=λhj e=>(hz _ hj).trans e
 refine x3 ((.and (.var (v (j:=5) (by decide) rfl)) (.and (.var JR) (.and (.var (v (j:=9) (by decide) rfl)) (.and (.var (v (j:=10) (by decide) rfl)) (.and (.var (v (j:=3) (by decide) rfl)) (.and (.var (v (j:=6) (by decide) rfl)) .no))))):y2 56 ((mw,mF (th cs k))::KP cs ns) L (ae (aa 5) (ae (aa 37) (ae (aa 9) (ae (aa 10) (ae (aa 3) (ae (aa 6) az)))))) [.ref mw,rx (wW cs),.int (jG cs),.int (zt cs),.ref 4,.ref 6]) H loc hh hl) λH1 e1 h1=>?_
 have h1:bP ((mw,mF (th cs k))::(4,Is (.list []))::(6,eO)::[(2,Is (tq cs)),(3,Is (qj ns)),(1,Is (.gb true))]) H1:=bP.sub (λp hp=>by
  simp only[KP,aC,bh,or_false]at hp |-
  rcases hp with h|h|h|h|h|h<;>simp[h]) _ h1
 have n4:(4:Nat)≠mw:=hn (4,Is (.list [])) (.tail _ (.tail _ (.head _)))
 have n6:(6:Nat)≠mw:=hn (6,eO) (.tail _ (.tail _ (.tail _ (.head _))))
 obtain⟨rl,H2,e2,h2,c,ok⟩:=Ip (pick:=zt cs) (F:=jq (Wt (wW cs)) _root_.id ((th cs k).flatMap (cT (jG cs)))) (dr:=th cs k) o (by exact PJ M7) n4.symm n6.symm (by decide) (λp hp=>by
  simp only[aC,bh,or_false]at hp
  rcases hp with rfl|rfl|rfl
  ·exact⟨hn _ (.head _),(by decide:(2:Nat)≠4),(by decide:(2:Nat)≠6)⟩
  ·exact⟨hn _ (.tail _ (.head _)),(by decide:(3:Nat)≠4),(by decide:(3:Nat)≠6)⟩
  ·exact⟨hn _ (.tail _ (.tail _ (.tail _ (.tail _ (.head _))))),(by decide:(1:Nat)≠4),(by decide:(1:Nat)≠6)⟩) (by exact adq dl hk) (Ik M7 hd) H1 h1
 refine x3 (HX (n:=56) (L:=L) M7 (v (j:=9) (by decide) rfl) H2 loc h2 hl) λH3 e3 h3=>?_
 have a1:gD 22 23 (bb (ae (aN gA (ae (aa 5) (ae (aa 37) (ae (aa 9) (ae (aa 10) (ae (aa 3) (ae (aa 6) az))))))) (ae (fS yh) az))) ⟨H,loc⟩=some (.next,⟨H3,(loc.set 23 (some (.lst ((whole (jG cs)).map M.v)))).set 22 (some (.lst (rl.map rv)))⟩):=
  aR (aR (aR (aR e1 (gH e2)) (aR (aR e3 rfl) rfl)) rfl) rfl
 have a2:Ec 24 ⟨H3,(loc.set 23 (some (.lst ((whole (jG cs)).map M.v)))).set 22 (some (.lst (rl.map rv)))⟩=some (.next,⟨H3.set 1 (some (.gb false)),((loc.set 23 (some (.lst ((whole (jG cs)).map M.v)))).set 22 (some (.lst (rl.map rv)))).set 24 (some .lam)⟩):=
  ag (by rw[h3.is (.tail _ (.tail _ (.tail _ (.tail _ (.head _)))))];rfl)
 have wi:=((hl.set 23 (.lst ((whole (jG cs)).map M.v)) (by decide)).set 22 (.lst (rl.map rv)) (by decide)).set 24 .lam (by decide)
 have hs:bP [(6,eO),(3,Is (qj ns)),(4,Is (.list []))] H3:=bP.sub (λp hp=>by
  simp only[aC,bh,or_false]at hp |-
  rcases hp with h|h|h<;>simp[h]) _ h3
 have h4:bP [(6,eO),(3,Is (qj ns)),(4,Is (.list [])),(1,Is (.gb false))] (H3.set 1 (some (.gb false))):=bP.sub (λp hp=>by
  simp only[aC,bh,or_false]at hp |-
  rcases hp with h|h|h|h<;>simp[h]) _ (hs.upd 1 (.gb false) (Is (.gb false)) rfl (h3.lt (.tail _ (.tail _ (.tail _ (.tail _ (.head _)))))) λp hp=>by
  simp only[aC,bh,or_false]at hp
  rcases hp with rfl|rfl|rfl
  ·exact(by decide:(6:Nat)≠1)
  ·exact(by decide:(3:Nat)≠1)
  ·exact(by decide:(4:Nat)≠1))
 refine x4 (Qd (L:=(24,.lam)::(22,.lst (rl.map rv))::(23,.lst ((whole (jG cs)).map M.v))::L) (dr:=th cs k) (λp hp=>⟨(hd p hp).1.1,(hd p hp).2⟩) rfl (Mx (pick:=zt cs) o M7 hd c ok) Fq rfl (λj hj=>by
  simp only[aC,bh,or_false]at hj
  rcases hj with rfl|rfl|rfl|rfl|rfl|rfl
  ·rfl
  ·exact(hz 10 (by decide)).trans rfl
  ·exact(hz 9 (by decide)).trans rfl
  ·exact(hz 6 (by decide)).trans rfl
  ·exact(hz 3 (by decide)).trans rfl
  ·exact(hz 2 (by decide)).trans rfl) ⟨fr.a,fr.b,fr.c,fr.d,fr.e⟩ ((hz 4 (by decide)).trans rfl) rfl (lk (lk (lk JR rfl) rfl) rfl) _ _ h4 wi) λH5 l5 e5 h5=>?_
 exact⟨H5,l5,aR a1 (aR a2 e5),h5⟩
theorem sq {d e:DS} {st st':Internal.St} {r:Option (Fl×Internal.St)} (h:d st=some (.next,st')) (k:e st'=r):ax d e st=r:=aR h k
theorem IY (xs:List Int):∃H',N3 [some .tab,some (.gb true)] [.lst (xs.map .int)]=some (.bool true,H')/\H'[1]?=some (some (.gb false)):=by
 refine x5 (Ij xs) λH1 l1 e1 h1 pN=>?_
 refine x5 (Jz xs H1 l1 h1 pN) λH2 l2 e2 h2 nB=>?_
 obtain⟨ob,⟨cs,eo,hc⟩,h2⟩:=h2.ex
 subst eo
 obtain⟨ob,⟨ns,eo,Fq⟩,h2⟩:=h2.sw.ex
 subst eo
 have h2:bP ((5,mF [])::KP cs ns) H2:=bP.sub (λp hp=>by
  simp only[KP,K0,aC,bh,or_false]at hp |-
  rcases hp with h|h|h|h|h|h<;>simp[h]) _ h2
 refine x5 (Qa hc (K:=(5,mF [])::KP cs ns) (.tail _ (.head _)) rfl H2 l2 h2 nB) λH3 l3 e3 h3 wi=>?_
 have wi:Loc 56 (lP cs 5 []) l3:=wi.sub (.c rfl (.c rfl (.c rfl (.c rfl (.c rfl (.c rfl (.c rfl (.c rfl .n))))))))
 obtain⟨mw,H4,l4,e4,hn,h4,Cs⟩:=IA hc 5 H3 l3 (λp hp=>by
  simp only[KP,aC,bh,or_false]at hp
  rcases hp with rfl|rfl|rfl|rfl|rfl
  ·exact(by decide:(2:Nat)≠5)
  ·exact(by decide:(3:Nat)≠5)
  ·exact(by decide:(4:Nat)≠5)
  ·exact(by decide:(6:Nat)≠5)
  ·exact(by decide:(1:Nat)≠5)) h3 wi
 refine x5 ((Sn.fH (by decide) (Rk (K:=(mw,mF (th cs (6-jG cs)))::KP cs ns) (L:=lP cs mw (th cs (6-jG cs))) hc (.tail _ (.head _)) rfl):Sn 56 _ _ (ba (ah 19) _) _) H4 l4 h4 Cs) λH5 l5 e5 h5 U7=>?_
 refine x5 ((Sn.fH (by decide) (L_ (K:=(mw,mF (th cs (6-jG cs)))::KP cs ns) (L:=(19,A2 cs)::lP cs mw (th cs (6-jG cs))) hc (.tail _ (.head _)) rfl rfl):Sn 56 _ _ (ba (ah 37) _) _) H5 l5 h5 U7) λH6 l6 e6 h6 U6=>?_
 refine x4 (Qe Fq hn (by exact adp) rfl (λj hj=>by
  simp only[aC,bh,or_false]at hj
  rcases hj with rfl|rfl|rfl|rfl|rfl|rfl|rfl<;>rfl) ⟨rfl,rfl,rfl,rfl,rfl⟩ H6 l6 h6 U6) λH7 l7 e7 h7=>?_
 refine⟨H7,?_,h7⟩
 have e:CX ⟨[some .tab,some (.gb true)],[V.lst (xs.map .int)].map some++List.replicate 55 .none⟩=some (.ret (.bool true),⟨H7,l7⟩):=sq e1 (sq e2 (sq e3 (sq e4 (sq e5 (sq e6 e7)))))
 exact DK rfl e
end
theorem M5 {α:Type} {P:List α->Prop} (h:∀a,P [a]):∀us,us.length=1->P us:=by
 intro us e
 cases us with
 |nil=>cases e
 |cons a l=>cases l with
  |nil=>exact h a
  |cons b l=>cases e
theorem UU {α:Type} {P:List α->Prop} {n:Nat} (h:∀a l,l.length=n->P (a::l)) (us) (e:us.length=n+1):P us:=by
 cases us with
 |nil=>cases e
 |cons a l=>exact h a l (iH e)
theorem M4 {P:bw->Prop} (h:∀a b,P [a,b]):∀us,us.length=2->P us:=UU λa=>M5 (h a)
theorem us3 {P:bw->Prop} (h:∀a b c,P [a,b,c]):∀us,us.length=3->P us:=UU λa=>M4 (h a)
theorem us4 {P:bw->Prop} (h:∀a b c d,P [a,b,c,d]):∀us,us.length=4->P us:=UU λa=>us3 (h a)
theorem us5 {P:bw->Prop} (h:∀a b c d e,P [a,b,c,d,e]):∀us,us.length=5->P us:=UU λa=>us4 (h a)
theorem us6 {P:bw->Prop} (h:∀a b c d e f,P [a,b,c,d,e,f]):∀us,us.length=6->P us:=UU λa=>us5 (h a)
theorem nE {a c n:Nat} {fd:FuncData} {body:List Stmt} {o oc:Obj} {vs:dY} {t:Tok} (k:G.K.lookup a=some o) (d:o.data= .func fd) (b:fd.body= .stmts body) (g:(fd.globals,fd.builtins,fd.closure,fd.code)=(mainGlobals,builtinsNs,[],.ref c))
  (z:(fd.scope.kind==.function&&!fd.scope.isCoroutine&&!fd.scope.isGenerator&&decide (fd.scope.names.map (·.1)).Nodup&&(fd.scope.names.all λx=>x.2 !=.free)&&((fd.scope.names.take n).all λx=>x.2==.local ||x.2==.cell))=true)
  (kc:G.K.lookup c=some oc) (dc:oc.data= .fields vs) (v:vs[1]?=some (.str fd.qualname t)) (bind:∀us:bw,us.length=n->bindArgs fd ⟨us,[]⟩=pure ((fd.scope.names.take n|>.map (·.1)).zip us)):hZ a fd body n:=by
 simp only[bp,beq_iff_eq,mh,iB]at z
 obtain⟨⟨⟨⟨⟨z1,z2⟩,z3⟩,z4⟩,z5⟩,z6⟩:=z
 simp only[l8]at g
 exact⟨⟨_,k,d⟩,b,g.1,g.2.1,g.2.2.1,z1,z2,z3,⟨c,oc,vs,t,g.2.2.2,kc,dc,v⟩,z4,z5,z6,bind⟩
noncomputable def wj (o:Obj):dY:=match o.data with| .fields v=>v|_=>#[]
theorem Z0:hZ 35 (nM (CQ wo.1.params)) HP.1 2:=
 nE (c:=34) (t:=218) (o:=CQ wo.1.params) (oc:=Gy wo.1.params) (by kernel_rfl) (by kernel_rfl) (by kernel_rfl) (by kernel_rfl) (by kernel_rfl) (by kernel_rfl) (vs:=wj (Gy wo.1.params)) (by kernel_rfl) (by kernel_rfl) (M4 λa b=>by kernel_rfl)
theorem ZZ:hZ 42 (nM (CP wo.1.params)) sF.1 3:=
 nE (c:=41) (t:=226) (o:=CP wo.1.params) (oc:=Gx wo.1.params) (by kernel_rfl) (by kernel_rfl) (by kernel_rfl) (by kernel_rfl) (by kernel_rfl) (by kernel_rfl) (vs:=wj (Gx wo.1.params)) (by kernel_rfl) (by kernel_rfl) (us3 λa b c=>by kernel_rfl)
theorem ZY:hZ 56 (nM (CO wo.1.params)) iZ.1 2:=
 nE (c:=55) (t:=248) (o:=CO wo.1.params) (oc:=Gw wo.1.params) (by kernel_rfl) (by kernel_rfl) (by kernel_rfl) (by kernel_rfl) (by kernel_rfl) (by kernel_rfl) (vs:=wj (Gw wo.1.params)) (by kernel_rfl) (by kernel_rfl) (M4 λa b=>by kernel_rfl)
theorem ZX:hZ 63 (nM (CN wo.1.params)) lK.1 2:=
 nE (c:=62) (t:=266) (o:=CN wo.1.params) (oc:=uH wo.1.params) (by kernel_rfl) (by kernel_rfl) (by kernel_rfl) (by kernel_rfl) (by kernel_rfl) (by kernel_rfl) (vs:=wj (uH wo.1.params)) (by kernel_rfl) (by kernel_rfl) (M4 λa b=>by kernel_rfl)
theorem ZW:hZ 70 (nM (CM wo.1.params)) lJ.1 1:=
 nE (c:=69) (t:=277) (o:=CM wo.1.params) (oc:=Gs wo.1.params) (by kernel_rfl) (by kernel_rfl) (by kernel_rfl) (by kernel_rfl) (by kernel_rfl) (by kernel_rfl) (vs:=wj (Gs wo.1.params)) (by kernel_rfl) (by kernel_rfl) (M5 λa=>by kernel_rfl)
theorem Z1:hZ 21 (nM (CR wo.1.params)) iK.1 2:=
 nE (c:=20) (t:=192) (o:=CR wo.1.params) (oc:=Gz wo.1.params) (by kernel_rfl) (by kernel_rfl) (by kernel_rfl) (by kernel_rfl) (by kernel_rfl) (by kernel_rfl) (vs:=wj (Gz wo.1.params)) (by kernel_rfl) (by kernel_rfl) (M4 λa b=>by kernel_rfl)
theorem ZV:hZ 88 (nM (CL wo.1.params)) lI.1 1:=
 nE (c:=87) (t:=348) (o:=CL wo.1.params) (oc:=Gr wo.1.params) (by kernel_rfl) (by kernel_rfl) (by kernel_rfl) (by kernel_rfl) (by kernel_rfl) (by kernel_rfl) (vs:=wj (Gr wo.1.params)) (by kernel_rfl) (by kernel_rfl) (M5 λa=>by kernel_rfl)
theorem TL:hZ 134 (nM (ye wo.1.params)) kX.1 1:=
 nE (c:=133) (t:=2306) (o:=ye wo.1.params) (oc:=BC wo.1.params) (by kernel_rfl) (by kernel_rfl) (by kernel_rfl) (by kernel_rfl) (by kernel_rfl) (by kernel_rfl) (vs:=wj (BC wo.1.params)) (by kernel_rfl) (by kernel_rfl) (M5 λa=>by kernel_rfl)
theorem TK:hZ 141 (nM (yd wo.1.params)) kY.1 1:=
 nE (c:=140) (t:=2314) (o:=yd wo.1.params) (oc:=BA wo.1.params) (by kernel_rfl) (by kernel_rfl) (by kernel_rfl) (by kernel_rfl) (by kernel_rfl) (by kernel_rfl) (vs:=wj (BA wo.1.params)) (by kernel_rfl) (by kernel_rfl) (M5 λa=>by kernel_rfl)
theorem TJ:hZ 146 (nM (yc wo.1.params)) jQ.1 1:=
 nE (c:=145) (t:=2323) (o:=yc wo.1.params) (oc:=Bz wo.1.params) (by kernel_rfl) (by kernel_rfl) (by kernel_rfl) (by kernel_rfl) (by kernel_rfl) (by kernel_rfl) (vs:=wj (Bz wo.1.params)) (by kernel_rfl) (by kernel_rfl) (M5 λa=>by kernel_rfl)
theorem TH:hZ 153 (nM (yb wo.1.params)) oR.1 1:=
 nE (c:=152) (t:=2329) (o:=yb wo.1.params) (oc:=By wo.1.params) (by kernel_rfl) (by kernel_rfl) (by kernel_rfl) (by kernel_rfl) (by kernel_rfl) (by kernel_rfl) (vs:=wj (By wo.1.params)) (by kernel_rfl) (by kernel_rfl) (M5 λa=>by kernel_rfl)
theorem TF:hZ 158 (nM (ya wo.1.params)) nr.1 2:=
 nE (c:=157) (t:=2336) (o:=ya wo.1.params) (oc:=Bx wo.1.params) (by kernel_rfl) (by kernel_rfl) (by kernel_rfl) (by kernel_rfl) (by kernel_rfl) (by kernel_rfl) (vs:=wj (Bx wo.1.params)) (by kernel_rfl) (by kernel_rfl) (M4 λa b=>by kernel_rfl)
theorem TC:hZ 163 (nM (x' wo.1.params)) oU.1 2:=
 nE (c:=162) (t:=2342) (o:=x' wo.1.params) (oc:=Bw wo.1.params) (by kernel_rfl) (by kernel_rfl) (by kernel_rfl) (by kernel_rfl) (by kernel_rfl) (by kernel_rfl) (vs:=wj (Bw wo.1.params)) (by kernel_rfl) (by kernel_rfl) (M4 λa b=>by kernel_rfl)
theorem TB:hZ 168 (nM (x_ wo.1.params)) oT.1 2:=
 nE (c:=167) (t:=2348) (o:=x_ wo.1.params) (oc:=Bv wo.1.params) (by kernel_rfl) (by kernel_rfl) (by kernel_rfl) (by kernel_rfl) (by kernel_rfl) (by kernel_rfl) (vs:=wj (Bv wo.1.params)) (by kernel_rfl) (by kernel_rfl) (M4 λa b=>by kernel_rfl)
theorem TA:hZ 173 (nM (x9 wo.1.params)) oW.1 5:=
 nE (c:=172) (t:=2354) (o:=x9 wo.1.params) (oc:=Bu wo.1.params) (by kernel_rfl) (by kernel_rfl) (by kernel_rfl) (by kernel_rfl) (by kernel_rfl) (by kernel_rfl) (vs:=wj (Bu wo.1.params)) (by kernel_rfl) (by kernel_rfl) (us5 λa b c d e=>by kernel_rfl)
theorem Tz:hZ 178 (nM (x7 wo.1.params)) oV.1 4:=
 nE (c:=177) (t:=2360) (o:=x7 wo.1.params) (oc:=Bt wo.1.params) (by kernel_rfl) (by kernel_rfl) (by kernel_rfl) (by kernel_rfl) (by kernel_rfl) (by kernel_rfl) (vs:=wj (Bt wo.1.params)) (by kernel_rfl) (by kernel_rfl) (us4 λa b c d=>by kernel_rfl)
theorem Tx:hZ 183 (nM (x2 wo.1.params)) nv.1 6:=
 nE (c:=182) (t:=2366) (o:=x2 wo.1.params) (oc:=Bs wo.1.params) (by kernel_rfl) (by kernel_rfl) (by kernel_rfl) (by kernel_rfl) (by kernel_rfl) (by kernel_rfl) (vs:=wj (Bs wo.1.params)) (by kernel_rfl) (by kernel_rfl) (us6 λa b c d e f=>by kernel_rfl)
theorem Tw:hZ 188 (nM (xZ wo.1.params)) ie.1 1:=
 nE (c:=187) (t:=2372) (o:=xZ wo.1.params) (oc:=rY wo.1.params) (by kernel_rfl) (by kernel_rfl) (by kernel_rfl) (by kernel_rfl) (by kernel_rfl) (by kernel_rfl) (vs:=wj (rY wo.1.params)) (by kernel_rfl) (by kernel_rfl) (M5 λa=>by kernel_rfl)
noncomputable def A4:Value->Int| .int i _=>i|_=>0
noncomputable def NP (e:Int×Value):Bool:=match e.2 with| .int i _=>e.1==hashInt i|_=>false
theorem BY {prog:Program} {w:World} {h:Heap} {a:Addr} {o:Obj} {es:Array (Int×Value)} {ep:Nat} {t:SetTable} {S:Int->Bool} {n:Nat} (k:h.get? a=some o) (x:o.ExactSet) (d:o.data= .set es ep t) (al:es.toList.all NP=true)
  (hS:∀i,S i=true↔i∈es.toList.map λe=>A4 e.2) (z:es.size<scanBound) (f:t.fits es.size=true) (hn:es.size=n):h.SetOf (intKind prog w) a S n:=by
 have key:∀e∈es.toList,∃i u,e.2= .int i u/\e.1=hashInt i:=λe he=>by
  have :=aI.1 al e he
  obtain⟨hh,v⟩:=e
  cases v<;>simp only[NP,beq_iff_eq,fE]at this
  exact⟨_,_,rfl,this⟩
 refine⟨o,es,ep,t,k,x,d,λe he=>?_,λi=>?_,z,f,hn⟩
 ·refine x4 (key e he) λi u e1 e2=>?_
  exact⟨⟨i,by rw[e1];show(i==i)=true;simp,e2⟩,by rw[e1];rfl⟩
 ·rw[hS,aY]
  constructor
  ·rintro⟨e,he,rfl⟩
   refine x4 (key e he) λi u e1 U=>?_
   exact⟨e,he,by rw[e1];show(i==i)=true;simp⟩
  ·rintro⟨e,he,hi⟩
   refine x4 (key e he) λj u e1 U=>?_
   rw[e1]at hi
   have :j=i:=by simpa[intKind,Value.isInt]using hi
   exact⟨e,he,by rw[e1];exact this⟩
noncomputable def O3:Value->ar| .str y _=>y.cps.toList|_=>[]
noncomputable def Kk (e:DictEntry):Bool:=match e.key,e.val with| .int i _,.str y _=>e.hash==hashInt i&&Nat.ble y.cps.size 16777216|_,_=>false
theorem Dp {e:DictEntry} (h:Kk e=true):∃i t y u,e.key= .int i t/\e.val= .str y u/\e.hash=hashInt i/\y.cps.size<=16777216:=by
 obtain⟨hh,k,v⟩:=e
 cases k with
 |int i t=>
  cases v with
  |str y u=>
   have h:(hh==hashInt i&&Nat.ble y.cps.size 16777216)=true:=h
   rw[bp,beq_iff_eq]at h
   exact⟨_,_,_,_,rfl,rfl,h.1,ay h.2⟩
  |_=>cases h
 |_=>cases h
theorem Jj:∀L:List DictEntry,L.all Kk=true->∀i:Int,match(L.map λe=>(A4 e.key,O3 e.val)).lookup i with
  |some y=>y.length<=16777216/\∃t,(L.find? λe=>Value.isInt i e.key).map (·.val)=some (.str (S y) t)
  |none=>(L.find? λe=>Value.isInt i e.key).map (·.val)=none:=by
 intro xx
 induction xx with
 |nil=>
  intro _ i
  exact rfl
 |cons e L ih=>
  intro h i
  rw[kJ,bp]at h
  obtain⟨j,t,y,u,e1,e2,e3,e4⟩:=Dp h.1
  have ih:=ih h.2 i
  rw[bo,bG,kL,e1,e2]
  by_cases q:i=j
  ·subst q
   rw[show(i==A4 (.int i t))=true by show(i==i)=true;simp,show Value.isInt i (.int i t)=true by show(i==i)=true;simp]
   refine⟨by show y.cps.toList.length<=_;rw[jf];exact e4,u,?_⟩
   show(some e.val)=_
   rw[e2]
   show some (Value.str y u)=some (.str (S y.cps.toList) u)
   rw[KN]
  ·rw[show(i==A4 (.int j t))=false by show(i==j)=false;simpa using q,show Value.isInt i (.int j t)=false by show(j==i)=false;simpa using λz=>q z.symm]
   exact ih
theorem B6 {prog:Program} {w:World} {h:Heap} {a:Addr} {o:Obj} {es:Array DictEntry} {ep:Nat} {f:Int->Option ar} (k:h.get? a=some o) (x:o.ExactDict) (d:o.data= .dict es ep) (al:es.toList.all Kk=true)
  (hf:∀i,f i=(es.toList.map λe=>(A4 e.key,O3 e.val)).lookup i):∃F,h.MapOf (intKind prog w) a F/\∀i,(match f i with|some y=>y.length<=16777216/\∃t,F i=some (.str (S y) t)|none=>F i=none):=by
 refine⟨λi=>PySem.findBy Value.isInt es i,⟨o,es,ep,k,x,d,λe he=>?_,λi=>rfl⟩,λi=>?_⟩
 ·obtain⟨i,t,y,u,e1,e2,e3,e4⟩:=Dp (aI.1 al e (Array.mem_toList_iff.2 he))
  exact⟨i,by rw[e1];show(i==i)=true;simp,e3⟩
 ·have :=Jj es.toList al i
  rw[hf i]
  have e:PySem.findBy Value.isInt es i=(es.toList.find? λe=>Value.isInt i e.key).map (·.val):=by
   unfold PySem.findBy
   rw[<-Array.find?_toList]
  dsimp only
  rw[e]
  exact this
noncomputable def VB (o:Obj):Array (Int×Value):=match o.data with| .set es _ _=>es|_=>#[]
noncomputable def aaJ (o:Obj):SetTable:=match o.data with| .set _ _ t=>t|_=>default
theorem abD:G.K.lookup 78=some (zA wo.1.params):=by kernel_rfl
theorem abC:G.K.lookup 89=some (oo 38):=by kernel_rfl
noncomputable def Vq:List Int:=[65024,65025,65026,65027,65028,65029,6150,65030,65031,65032,65033,6155,6156,6157,8203,8204,8205,65034,65035,65036,65037,65038,65039,173,847,8288,65279]
theorem Sd (P:Params):(VB (zA P)).toList.map (λe=>A4 e.2)=Vq:=by kernel_rfl
theorem sb1 (i:Int):jW i=true↔i∈Vq:=⟨λh=>(mq.1 h).elim (λh=>(by decide:∀x∈([173,847,6150,6155,6156,6157,8203,8204,8205,8288,65279]:List Int),x∈Vq) i (List.contains_iff_mem.1 h)) λh=>by
  have h:=aX.1 h
  have h1:=of_decide_eq_true h.1
  have h2:=of_decide_eq_true h.2
  have k:=(by decide:∀k<16,(65024+(k:Nat):Int)∈Vq) (i-65024).toNat (by exact acm h2)
  rw[show(65024+((i-65024).toNat:Nat):Int)=i by exact ack h1]at k
  exact k,(by decide:∀x∈Vq,jW x=true) i⟩
theorem aas (h:Heap) (hK:G.K.In h):h.SetOf (intKind G.prog G.w) 78 jW 27:=
 BY (es:=VB (zA wo.1.params)) (ep:=29) (t:=aaJ (zA wo.1.params)) (hK _ _ (abD)) ⟨by kernel_rfl,by kernel_rfl,by kernel_rfl⟩ (by kernel_rfl) (by kernel_rfl) (λi=>by rw[Sd];exact sb1 i) (ay (by kernel_rfl)) (by kernel_rfl) (by kernel_rfl)
theorem MB:(eo 38).all Kk=true:=by kernel_rfl
theorem MC:(eo 38).map (λe=>(A4 e.key,O3 e.val))=Pk:=by kernel_rfl
theorem aaq (h:Heap) (hK:G.K.In h):∃F,h.MapOf (intKind G.prog G.w) 89 F/\∀i,(match A7 i with|some y=>y.length<=16777216/\∃t,F i=some (.str (S y) t)|none=>F i=none):=
 B6 (es:=(eo 38).toArray) (ep:=(eo 38).length) (hK _ _ (abC)) ⟨rfl,rfl,rfl⟩ rfl MB (λi=>by show Pk.lookup i=((eo 38).map _).lookup i;rw[MC])
theorem C5:Eg 35 42 where
 makes:=by kernel_rfl
 init:=by kernel_rfl
 NQ:=by kernel_rfl
 gat:=by kernel_rfl
 NZ:=by kernel_rfl
 cmp:=by kernel_rfl
 V7:=by kernel_rfl
 sel:=by kernel_rfl
 sat:=by kernel_rfl
 plain:=by kernel_rfl
 Nw:=by kernel_rfl
 VU:=by kernel_rfl
 NT:=by kernel_rfl
theorem aap:KO:=⟨⟨4,((T5 wo.1.params).get 4).getD default,by kernel_rfl,by decide,by kernel_rfl,by kernel_rfl,by kernel_rfl,by kernel_rfl⟩⟩
def wd:Wd where
 HM:=by kernel_rfl
 HN:=by kernel_rfl
 HJ:=by kernel_rfl
 HI:=by kernel_rfl
 HL:=by kernel_rfl
 HO:=by kernel_rfl
 sE:=by kernel_rfl
 lH:=by kernel_rfl
 vy:=by kernel_rfl
 rp:=by kernel_rfl
 BO:=by kernel_rfl
 t4:=by kernel_rfl
 qJ:=by kernel_rfl
 DR:=by kernel_rfl
 DQ:=by kernel_rfl
 Dg:=189
 k4:=by kernel_rfl
 aB1:=78
 nB1:=27
 xt:=by kernel_rfl
 b1:=aas
 aB3:=89
 NY:=by kernel_rfl
 b3s:=by decide
 b3:=aaq
 BR:=35
 yz:=nM (CQ wo.1.params)
 okI:=Z0
 nmI:=by kernel_rfl
 glC:=by kernel_rfl
 NO:=by kernel_rfl
 mD:=42
 p_:=nM (CP wo.1.params)
 p6:=ZZ
 vM:=by kernel_rfl
 cC:=⟨56,nM (CO wo.1.params),ZY,by kernel_rfl,by kernel_rfl⟩
 dh:=⟨63,nM (CN wo.1.params),ZX,by kernel_rfl,by kernel_rfl⟩
 dX:=⟨70,nM (CM wo.1.params),ZW,by kernel_rfl,by kernel_rfl⟩
 b_:=⟨21,nM (CR wo.1.params),Z1,by kernel_rfl,by kernel_rfl⟩
 dU:=⟨88,nM (CL wo.1.params),ZV,by kernel_rfl,by kernel_rfl⟩
 du:=⟨134,nM (ye wo.1.params),TL,by kernel_rfl,by kernel_rfl⟩
 dz:=⟨141,nM (yd wo.1.params),TK,by kernel_rfl,by kernel_rfl⟩
 cN:=⟨146,nM (yc wo.1.params),TJ,by kernel_rfl,by kernel_rfl⟩
 fk:=⟨153,nM (yb wo.1.params),TH,by kernel_rfl,by kernel_rfl⟩
 eH:=⟨158,nM (ya wo.1.params),TF,by kernel_rfl,by kernel_rfl⟩
 fq:=⟨163,nM (x' wo.1.params),TC,by kernel_rfl,by kernel_rfl⟩
 fm:=⟨168,nM (x_ wo.1.params),TB,by kernel_rfl,by kernel_rfl⟩
 fu:=⟨173,nM (x9 wo.1.params),TA,by kernel_rfl,by kernel_rfl⟩
 ft:=⟨178,nM (x7 wo.1.params),Tz,by kernel_rfl,by kernel_rfl⟩
 eI:=⟨183,nM (x2 wo.1.params),Tx,by kernel_rfl,by kernel_rfl⟩
 wU:=⟨188,nM (xZ wo.1.params),Tw,by kernel_rfl,by kernel_rfl⟩
 ck:=C5
 bB:=aap
 tb1:=by kernel_rfl
 oY:=by kernel_rfl
 tl1:=by kernel_rfl
 HC:=by kernel_rfl
theorem Gj {h:Heap} {a:Addr} {o:Obj} {ep:Nat} (k:h.get? a=some o) (d:o.data= .dict (y5 o) ep) (al:(y5 o).all (λe=>match e.key with| .str _ _=>true|_=>false)=true):h.Ns a (nsFind (y5 o)):=by
 refine⟨o,y5 o,ep,k,d,λe he=>?_,λU=>rfl⟩
 rw[Array.all_eq_true]at al
 obtain⟨i,hi,rfl⟩:=Array.mem_iff_getElem.1 he
 have :=al i hi
 cases q:(y5 o)[i].key<;>rw[q]at this<;>first|exact⟨_,_,rfl⟩|cases this
theorem LV {h:Heap} {a:Addr} {m m':Str->mO} (x:h.Ns a m) (y:h.Ns a m') (n:Str):m n=m' n:=by
 obtain⟨o,es,ep,k,d,_,f⟩:=x
 obtain⟨o',es',ep',k',d',_,f'⟩:=y
 rw[k]at k';cases k'
 rw[d]at d';cases d'
 rw[<-f,<-f']
noncomputable def O4 (e:DictEntry):Bool:=match e.key with| .str _ _=>true|_=>false
noncomputable def kp (h:Heap):PH:=λb=>if b=58\/b=185 then none else h.get? b
theorem Mt {h:Heap} {o0 o2 o3:Obj} {e0 e2 e3:Nat} (hK:∀a o,G.K.lookup a=some o->kp h a=some o) (k0:G.K.lookup 0=some o0) (k2:G.K.lookup 2=some o2) (k3:G.K.lookup 3=some o3)
  (d0:o0.data= .dict (y5 o0) e0) (d2:o2.data= .dict (y5 o2) e2) (d3:o3.data= .dict (y5 o3) e3) (a0:(y5 o0).all O4=true) (a2:(y5 o2).all O4=true) (a3:(y5 o3).all O4=true)
  (l2:nsFind (y5 o2) "sys.recursionlimit"=none) (b3:Vo.all (λx=>(nsFind (y5 o3) x).isNone)=true) (gl:∀x,G.gl x=nsFind (y5 o3) x) (bi:∀x,G.bi x=if Vo.contains x then nsFind (y5 o0) x else none)
  (cd:∀h',Sub (kp h) h'->∀ps,TriplesOk ps.toList->h'.get? G.tb.2=some {cls:=.none,data:=.fields ps}->h'.IsCode G.tb.1 G.tb.2 ps/\h'.TableAt G.tb.1 G.tb.2 ps) (cl:∀h',Sub (kp h) h'->CodeHd h' G.tl.1 G.tl.2):JY (kp h) where
 cd:=cd
 cdl:=cl
 lim:=λh' x=>⟨_,Gj (x _ _ (hK _ _ k2)) d2 a2,l2⟩
 OT:=λh' x=>by
  refine⟨_,Gj (x _ _ (hK _ _ k3)) d3 a3,λn u e=>by rw[<-gl];exact e,λn u e=>?_⟩
  rw[bi]at e
  by_cases q:Vo.contains n=true
  ·exact Option.isNone_iff_eq_none.1 (aI.1 b3 n (by simpa using q))
  ·rw[af q]at e;cases e
 bns:=λh' x=>by
  refine⟨_,Gj (x _ _ (hK _ _ k0)) d0 a0,λn u e=>?_⟩
  rw[bi]at e
  by_cases q:Vo.contains n=true
  ·rw[ag q]at e;exact e
  ·rw[af q]at e;cases e
 K:=hK
section
def o_0 (P:Params):Obj:=((T5 P).get 0).getD default
def o_1 (P:Params):Obj:=((T5 P).get 1).getD default
def o_2 (P:Params):Obj:=((T5 P).get 2).getD default
theorem k_0:G.K.lookup 0=some (o_0 wo.1.params):=by kernel_rfl
theorem k_1:G.K.lookup 1=some (o_1 wo.1.params):=by kernel_rfl
theorem k_2:G.K.lookup 2=some (o_2 wo.1.params):=by kernel_rfl
theorem k_3:G.K.lookup 3=some (Ku wo.1.params):=by kernel_rfl
theorem abE:G.K.lookup 62=some (uH wo.1.params):=by kernel_rfl
theorem Yb:G.K.lookup 187=some (rY wo.1.params):=by kernel_rfl
noncomputable def dEp (o:Obj):Nat:=match o.data with| .dict _ n=>n|_=>0
theorem ZA (P:Params):(H1 P).get? 58=some (Gu P):=by kernel_rfl
theorem Sv (P:Params):(H1 P).get? 185=some (Br P):=by kernel_rfl
theorem g2k:G.K=kG (T5 wo.1.params):=by kernel_rfl
theorem Kq {h:Heap} (hY:∀a o,(H1 wo.1.params).get? a=some o->h.get? a=some o):∀a o,G.K.lookup a=some o->kp h a=some o:=λa o e=>by
 rw[g2k]at e
 obtain⟨h1,h2⟩:=Sf e
 unfold kp
 rw[af (not_or.2 h1)]
 apply hY
 unfold H1
 exact h2
theorem Gg:G.tb=(62,58):=by kernel_rfl
theorem Gf:G.tl=(187,185):=by kernel_rfl
theorem aah {h:Heap} (hY:∀a o,(H1 wo.1.params).get? a=some o->h.get? a=some o) (h':Heap) (x:Sub (kp h) h') (ps:dY) (tr:TriplesOk ps.toList) (ht:h'.get? G.tb.2=some {cls:=.none,data:=.fields ps}):h'.IsCode G.tb.1 G.tb.2 ps/\h'.TableAt G.tb.1 G.tb.2 ps:=by
 have k:=x _ _ (Kq hY _ _ abE)
 rw[Gg]at ht |-
 exact⟨⟨uH wo.1.params,wj (uH wo.1.params),Str.ofString "/claim/cut.py",274,3,0,true,181,0,_,k,by kernel_rfl,by kernel_rfl,by kernel_rfl,by kernel_rfl,by kernel_rfl,by kernel_rfl,ht,rfl,tr,by decide⟩,⟨_,wj (uH wo.1.params),k,by kernel_rfl,by kernel_rfl,by kernel_rfl⟩,ht⟩
theorem T8 {h:Heap} (hY:∀a o,(H1 wo.1.params).get? a=some o->h.get? a=some o) (h':Heap) (x:Sub (kp h) h'):CodeHd h' G.tl.1 G.tl.2:=by
 have k:=x _ _ (Kq hY _ _ Yb)
 rw[Gf]
 exact⟨rY wo.1.params,wj (rY wo.1.params),Str.ofString "/claim/cut.py",2375,3,0,true,181,0,k,by kernel_rfl,by kernel_rfl,by kernel_rfl,by kernel_rfl,by kernel_rfl,by kernel_rfl,by kernel_rfl,by kernel_rfl,by decide⟩
theorem Tu {h:Heap} (hY:∀a o,(H1 wo.1.params).get? a=some o->h.get? a=some o):JY (kp h):=
 Mt (e0:=dEp (o_0 wo.1.params)) (e2:=dEp (o_2 wo.1.params)) (e3:=dEp (Ku wo.1.params)) (Kq hY) (k_0) (k_2) (k_3) (by kernel_rfl) (by kernel_rfl) (by kernel_rfl) (by kernel_rfl) (by kernel_rfl) (by kernel_rfl) (by kernel_rfl) (by kernel_rfl) (λx=>by kernel_rfl) (λx=>by kernel_rfl) (aah hY) (T8 hY)
end
theorem has_int {d:WData} (h:WShape.has [] d .int=true):∃i,d= .int i:=by
 cases d with
 |int i=>exact⟨i,rfl⟩
 |_=>exact nomatch(show false=true from h)
theorem has_list {d:WData} (h:WShape.has [] d (.list .int)=true):∃xs,d= .list xs/\WShape.hasItems [] xs .int=true:=by
 cases d with
 |list xs=>exact⟨xs,rfl,(mq.1 (show(WShape.hasItems [] xs .int||false)=true from h)).resolve_right eW⟩
 |_=>exact nomatch(show false=true from h)
theorem H_ {P:Params} {h:Heap} {i:Int} {v:Value} (x:Well P h v (.int i)):∃t,v= .int i t:=by
 cases x with
 |int _ t=>exact⟨t,rfl⟩
theorem Ek {P:Params} {h:Heap} {d:WData} {xs:List WData} {vs:bw} (x:WellAll P h vs (d::xs)):∃v r,vs=v::r/\Well P h v d/\WellAll P h r xs:=by
 cases x with
 |cons x y=>exact⟨_,_,rfl,x,y⟩
theorem H0 {P:Params} {h:Heap} {vs:bw} (x:WellAll P h vs []):vs=[]:=by
 cases x;rfl
theorem items_int {P:Params} {h:Heap} {p:Pt} (xs:List WData):∀{vs:bw},WShape.hasItems [] xs .int=true->WellAll P h vs xs->∃is:List Int,bS p vs (is.map .int)/\vs.length<=WData.weightAll xs:=by
 induction xs with
 |nil=>exact λU x=>H0 x▸⟨[],rfl,bN _⟩
 |cons d xs ih=>
  intro vs e x
  have e:=aX.1 (show(WShape.has [] d .int&&WShape.hasItems [] xs .int)=true from e)
  exact(has_int e.1).elim λi ed=>(Ek x).elim λv z=>z.elim λr z=>(ih e.2 z.2.2).elim λis w=>(H_ (ed▸z.2.1)).elim λt ev=>⟨i::is,z.1▸⟨v,r,rfl,⟨t,ev⟩,w.1⟩,z.1▸ed▸acj w.2⟩
theorem Rj {args:List WData} (h:RR.claim.pre args=true):∃xs,args=[.list xs]/\WShape.hasItems [] xs .int=true:=by
 have h:(WShape.hasAll [] args [.list .int]&&_)=true:=h
 have h:=(aX.1 h).1
 cases args with
 |nil=>exact nomatch(show false=true from h)
 |cons d ds=>
  have h:=aX.1 (show(WShape.has [] d (.list .int)&&WShape.hasAll [] ds [])=true from h)
  cases ds with
  |nil=>exact(has_list h.1).elim λxs w=>⟨xs,ak (λz=>[z]) w.1,w.2⟩
  |cons a r=>exact nomatch(show false=true from h.2)
theorem L8 {xs:List WData} (h:WData.layableAll [.list xs]=true):WData.weightAll xs<=2^20:=by
 unfold WData.layableAll at h
 rw[kJ,bp]at h
 have :=h.1
 unfold WData.layable at this
 rw[bp]at this
 have :=of_decide_eq_true this.2
 unfold WData.weight at this
 exact this
theorem xR (h:Heap):Sub (kp h) h:=λb o e=>by
 unfold kp at e
 split at e
 ·cases e
 ·exact e
theorem gm:cW=model RR.prog wo.1:=by kernel_rfl
theorem VX:G.os=wo.2:=by kernel_rfl
theorem Sp (P:Params):Gu P={cls:=.none,data:=.fields #[]}:=by kernel_rfl
theorem Mm (P:Params):Br P={cls:=.none,data:=.fields #[]}:=by kernel_rfl
set_option tactic.hygienic true in
theorem LB:Vs wo.1 wo.2:=by
 intro b7 a args vals s₀ mg Cr hY hg hm abO Po Pp hwl
 obtain⟨xs,rfl,hi⟩:=Rj Po
 have hz:=L8 Pp
 cases hwl with
 |cons hv hr=>
 cases hr
 cases hv with
 |list hl hw=>
 rename_i la us
 have g:=Tu hY
 refine w4 (g.OT b7.heap (xR _)) λmg' n1 n2 U=>?_
 have ha:a=188:=by
  have e1:=LV hg n1 "law"
  rw[hm,n2 "law" (.ref 188) wd.wU.gl]at e1
  cases e1;rfl
 subst ha
 have Vd:b7.heap.get? 58=some {cls:=.none,data:=.fields #[]}:=(hY _ _ (ZA _)).trans (ak some (Sp _))
 have FX:b7.heap.get? 185=some {cls:=.none,data:=.fields #[]}:=(hY _ _ (Sv _)).trans (ak some (Mm _))
 have hla:la≠58:=λe=>by subst e;rw[Vd]at hl;cases hl
 have hlb:la≠185:=λe=>by subst e;rw[FX]at hl;cases hl
 refine x3 (items_int xs (p:=⟨λb=>if b=la then some (nR us 0)else none,[58,185],b7⟩) hi hw) λis qg hlen=>?_
 refine x3 (IY is) λH' hf hT=>?_
 have t2:G.tb.2=58:=ak Prod.snd Gg
 have l2:G.tl.2=185:=ak Prod.snd Gf
 have tb:=(g.cd b7.heap (xR _) #[] trivial (by rw[t2];exact Vd)).2
 have tl:=(g.cdl b7.heap (xR _)).tab (ps:=#[]) (by rw[l2];exact FX)
 rw[Gg]at tb
 rw[Gf]at tl
 have I:Inv (kp b7.heap) [some .tab,some (.gb true)] ⟨λb=>if b=la then some (nR us 0)else none,[58,185],b7⟩:=by
  refine⟨xR _,λb o e=>?_,rfl,(by decide:[58,185].Nodup),λb hb=>?_,λn o e=>?_,⟨_,Kq hY _ _ k_1⟩,rfl,⟨.of_eq abO,Cr.trans VX.symm⟩,ak some l2.symm⟩
  ·by_cases q:b=la
   ·subst q;exact hl.trans ((ag rfl).symm.trans e)
   ·exact nomatch(af q).symm.trans e
  ·rcases aC.1 hb with rfl|hb
   ·exact⟨_,Vd⟩
   ·exact⟨_,a7.1 hb▸FX⟩
  ·match n,e with
   |0,e=>cases e;exact⟨58,rfl,ag (.inl rfl),af (Ne.symm hla),t2.symm,#[],trivial,Vd⟩
   |1,e=>cases e;exact⟨185,rfl,ag (.inr rfl),af (Ne.symm hlb),l2.symm,#[],⟨trivial,λU=>rfl⟩,FX⟩
   |n+2,e=>cases e
 have hV:bS ⟨λb=>if b=la then some (nR us 0)else none,[58,185],b7⟩ [.ref la] [.lst (is.map .int)]:=⟨_,_,rfl,⟨la,us,rfl,⟨by omega,0,ag rfl⟩,qg⟩,rfl⟩
 rw[<-gm]
 refine QO abA wd ⟨rfl,by decide,by decide⟩ g I hV hf λv q x I' hv=>?_
 obtain rfl:v= .bool true:=hv
 have c58:∃ps,q.s.heap.get? 58=some {cls:=.none,data:=.fields ps}:=by
  obtain⟨a,_,_,_,ea,ps,_,e2⟩:=I'.live 0 _ I'.tb
  rw[ea.trans t2]at e2
  exact⟨ps,e2⟩
 have V_:∃ps,q.s.heap.get? 185=some {cls:=.none,data:=.fields ps}:=by
  obtain⟨a,_,_,_,ea,ps,_,e2⟩:=I'.live 1 _ hT
  rw[ea.trans l2]at e2
  exact⟨ps,e2⟩
 refine⟨.inl ⟨_,.bool true,[],rfl,λU=>rfl,.bool true,by kernel_rfl,λU=>⟨gy,λa ha=>by cases ha⟩⟩,⟨λb o e=>?_,λb o e=>?_⟩,I'.so.2.trans (VX.trans Cr.symm),I'.so.1⟩
 ·by_cases q:b=58
  ·subst q
   rw[Vd]at e;cases e
   obtain⟨ps,e2⟩:=c58
   exact .inr (.inl ⟨tb.isCodeTable,rfl,#[],ps,rfl,by rw[Array.empty_append];exact e2⟩)
  ·by_cases q':b=185
   ·subst q'
    rw[FX]at e;cases e
    obtain⟨ps,e2⟩:=V_
    exact .inr (.inl ⟨tl.isCodeTable,rfl,#[],ps,rfl,by rw[Array.empty_append];exact e2⟩)
   ·exact .inl (I'.kp b o (by unfold kp;rw[af (not_or.2 ⟨q,q'⟩)];exact e))
 ·by_cases q:b=58
  ·subst q;exact c58.imp' _ λU e2=>e2
  ·by_cases q':b=185
   ·subst q';exact V_.imp' _ λU e2=>e2
   ·exact⟨_,I'.kp b o (by unfold kp;rw[af (not_or.2 ⟨q,q'⟩)];exact e)⟩
abbrev YP:World->Heap->Prop:=λw h=>∀a o,(H1 w.params).get? a=some o->h.get? a=some o
theorem Rn (aaM:PySem.Challenge.rw_xb0035_01.row.wellSaid=true):PySem.Challenge.rw_xb0035_01.row.Holds:=by
 refine holds_open (q:=qv) (loose:=lo) (Xt:=XT) (XP:=λU U=>True) (Yf:=YF) (Ya:=YA) (YP:=YP) (N:=28704) R8 (λw s e a o h=>?_) (λw h h' y k a o e=>k _ _ (y a o e)) (λU U=>trivial) (λU U U U U=>trivial) (by rfl) (by rfl) (by rfl) (λs e=>recFacts_of e) (by rfl) aaM (by decide+kernel) ⟨rfl,rfl,rfl,rfl,rfl,by decide+kernel⟩ ⟨[.list []],by decide+kernel,by decide+kernel⟩ ?_
 ·have :=congrFun e a
  exact this.trans h
 ·intro w s₀ b7 mg mb G Y a o pm cd doc dV kV ho hd Na hD OK hg args vals as Po Pp hrd hwl hlo
  exact MZ LB w b7.os rfl Y G.T.g OK hg Po Pp hwl
theorem PZ:PySem.W.Fast.tw17960256430627541270 (PySem.W.Fast.tw2368527892694137696 PySem.Challenge.rw_xb0035_01)=true:=by kernel_rfl
theorem Ej:PySem.Challenge.rw_xb0035_01.wellSaid=true:=by
 rw[PySem.W.Fast.te9446332074065402090]
 delta PySem.W.Fast.tw9446332074065402090
 rw[PZ]
 kernel_rfl
end Mine.Internal
end
open PySem PySem.W PySem.Calls PyProof.Rows
theorem PySem.Challenge.cw_xb0035_01_holds : PySem.Challenge.rw_xb0035_01.Holds :=
 holds_law Mine.Internal.Ej Mine.Internal.Rn
