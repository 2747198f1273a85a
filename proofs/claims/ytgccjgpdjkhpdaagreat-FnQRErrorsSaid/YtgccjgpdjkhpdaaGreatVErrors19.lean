import Derived.Test.YtgccjgpdjkhpdaaGreatVErrors17
open Go.Proofs.YtgccjgpdjkhpdaaGreatW.PrintWords.Aside0 renaming mk→Mw
open List renaming getD_eq_getElem?_getD→Mx
/-! Own texts of this claim, part 19. -/
namespace Go.Proofs.YtgccjgpdjkhpdaaGreat.B
open Go.RowKit Go.Proofs.YtgccjgpdjkhpdaaGreatW.PrintWords Go.Proofs.YtgccjgpdjkhpdaaGreatW.PrintLast Go.Proofs.YtgccjgpdjkhpdaaGreatW.PrintMore
set_option linter.unusedVariables false
set_option linter.unusedSimpArgs false
class FF (m p:Nat):Prop where
 fld:aG m p
 prim:eA m p
structure El (m p:Nat) where
 v:Nat
 lt:v<2 ^ m
namespace El
variable {m p:Nat}
theorem ext' {a b:El m p}(h:a.v=b.v):a=b:=by cases a;cases b;cases h;rfl
instance:DecidableEq (El m p):=fun a b=>if h:a.v=b.v then .isTrue (ext' h) else .isFalse fun e=>h (by rw [e])
variable [F:FF m p]
instance:Add (El m p):=⟨fun a b=>⟨a.v ^^^ b.v,fZ _ _ _ a.lt b.lt⟩⟩
instance:Mul (El m p):=⟨fun a b=>⟨gm m p a.v b.v,cD F.fld _ _ a.lt⟩⟩
instance:OfNat (El m p) 0:=⟨⟨0,Nat.two_pow_pos m⟩⟩
instance:OfNat (El m p) 1:=⟨⟨1,dm (p:=p) F.fld 0⟩⟩
theorem v_add (a b:El m p):(a+b).v=a.v ^^^ b.v:=have _:=F;rfl
theorem v_mul (a b:El m p):(a*b).v=gm m p a.v b.v:=rfl
theorem D5:(0:El m p).v=0:=have _:=F;rfl
theorem D6:(1:El m p).v=1:=rfl
theorem add_comm (a b:El m p):a+b=b+a:=have _:=F;ext' (Nat.xor_comm _ _)
theorem add_assoc (a b c:El m p):a+b+c=a+(b+c):=have _:=F;ext' (Nat.xor_assoc _ _ _)
theorem add_self (a:El m p):a+a=0:=have _:=F;ext' (Nat.xor_self _)
theorem zero_add (a:El m p):0+a=a:=have _:=F;ext' (Nat.zero_xor _)
theorem add_zero (a:El m p):a+0=a:=have _:=F;ext' (Nat.xor_zero _)
theorem mul_comm (a b:El m p):a*b=b*a:=ext' (jL F.fld _ _ a.lt b.lt)
theorem mul_assoc (a b c:El m p):a*b*c=a*(b*c):=ext' (me F.fld _ _ _ a.lt b.lt c.lt)
theorem mul_one (a:El m p):a*1=a:=ext' (pE F.fld _)
theorem one_mul (a:El m p):1*a=a:=by rw [mul_comm,mul_one]
theorem mul_zero (a:El m p):a*0=0:=ext' (ko _)
theorem zero_mul (a:El m p):0*a=0:=ext' (fh _)
theorem mul_add (a b c:El m p):a*(b+c)=a*b+a*c:=ext' (mS _ _ _)
theorem add_mul (a b c:El m p):(a+b)*c=a*c+b*c:=ext' (jK _ _ _)
instance:Std.Commutative (α:=El m p) (·+·):=⟨add_comm⟩
instance:Std.Associative (α:=El m p) (·+·):=⟨add_assoc⟩
instance:Std.Commutative (α:=El m p) (·*·):=⟨mul_comm⟩
instance:Std.Associative (α:=El m p) (·*·):=⟨mul_assoc⟩
theorem ne_zero {a:El m p}(h:a≠0):a.v≠0:=have _:=F;fun e=>h (ext' e)
theorem mul_ne {a b:El m p}(ha:a≠0)(hb:b≠0):a*b≠0:=by
 intro h;have:=L8 F.fld F.prim a.v b.v (ne_zero ha) (ne_zero hb) a.lt b.lt;exact this (congrArg El.v h)
theorem mul_eq_zero {a b:El m p}(h:a*b=0):a=0\/b=0:=by
 by_cases ha:a=0
 ·exact .inl ha
 by_cases hb:b=0
 ·exact .inr hb
 exact absurd h (mul_ne ha hb)
theorem one_ne:(1:El m p)≠0:=fun h=>by have:=congrArg El.v h;rw [D6,D5] at this;omega
theorem inv_ex (a:El m p)(h:a≠0):∃ b:El m p,b≠0/\a*b=1:=by
 obtain⟨b,h0,hb,e⟩:=L9 F.fld F.prim a.v (ne_zero h) a.lt;exact⟨⟨b,hb⟩,fun e'=>h0 (congrArg El.v e'),ext' e⟩
theorem add_eq_zero {a b:El m p}(h:a+b=0):a=b:=by
 have:a+b+b=b:=by rw [h,zero_add]
 rwa [add_assoc,add_self,add_zero] at this
theorem mul_left_cancel {a b c:El m p}(h:a≠0)(e:a*b=a*c):b=c:=by
 have:a*(b+c)=0:=by rw [mul_add,e,add_self]
 rcases mul_eq_zero this with h' | h'
 ·exact absurd h' h
 exact add_eq_zero h'
def pow (a:El m p):Nat->El m p
 | 0=>1
 | n+1=>pow a n*a
theorem pow_add (a:El m p)(i j:Nat):pow a (i+j)=pow a i*pow a j:=by
 induction j with
 | zero=>rw [Nat.add_zero,pow,mul_one]
 | succ j ih=>rw [<- Nat.add_assoc,pow,pow,ih,mul_assoc]
theorem pow_ne {a:El m p}(h:a≠0)(n:Nat):pow a n≠0:=by
 induction n with
 | zero=>exact one_ne
 | succ n ih=>exact mul_ne ih h
def sum:Nat->(Nat->El m p)->El m p
 | 0,_=>0
 | n+1,f=>sum n f+f n
theorem sum_congr {n:Nat}{f g:Nat->El m p}(h:∀ i,i<n->f i=g i):sum n f=sum n g:=by
 have _:=F
 induction n with
 | zero=>rfl
 | succ n ih=>rw [sum,sum,ih (fun i hi=>h i (by omega)),h n (by omega)]
theorem D7 (n:Nat):sum n (fun _=>(0:El m p))=0:=by
 induction n with
 | zero=>rfl
 | succ n ih=>rw [sum,ih,add_zero]
theorem sum_zero' {n:Nat}{f:Nat->El m p}(h:∀ i,i<n->f i=0):sum n f=0:=(sum_congr h).trans (D7 n)
theorem sum_add (n:Nat)(f g:Nat->El m p):sum n (fun i=>f i+g i)=sum n f+sum n g:=by
 induction n with
 | zero=>rw [sum,sum,sum,add_zero]
 | succ n ih=>rw [sum,sum,sum,ih];ac_rfl
theorem mul_sum (n:Nat)(a:El m p)(f:Nat->El m p):a*sum n f=sum n (fun i=>a*f i):=by
 induction n with
 | zero=>rw [sum,sum,mul_zero]
 | succ n ih=>rw [sum,sum,mul_add,ih]
theorem sum_mul (n:Nat)(a:El m p)(f:Nat->El m p):sum n f*a=sum n (fun i=>f i*a):=by
 rw [mul_comm,mul_sum];exact sum_congr fun i _=>mul_comm _ _
theorem sum_one (n k:Nat)(f:Nat->El m p)(hk:k<n)(h:∀ i,i<n->i≠k->f i=0):sum n f=f k:=by
 induction n with
 | zero=>omega
 | succ n ih=>
  rw [sum];by_cases e:k=n
  ·subst e;rw [sum_zero' (fun i hi=>h i (by omega) (by omega)),zero_add]
  rw [ih (by omega) (fun i hi hne=>h i (by omega) hne),h n (by omega) (by omega),add_zero]
theorem D8 (n k:Nat)(f:Nat->El m p)(h:∀ i,n<=i->f i=0):sum (n+k) f=sum n f:=by
 induction k with
 | zero=>rfl
 | succ k ih=>rw [<- Nat.add_assoc,sum,ih,h _ (by omega),add_zero]
theorem sum_upto {n N:Nat}(f:Nat->El m p)(hN:n<=N)(h:∀ i,n<=i->f i=0):sum N f=sum n f:=by
 obtain⟨k,rfl⟩:=Nat.exists_eq_add_of_le hN;exact D8 n k f h
theorem sum_head (n:Nat)(f:Nat->El m p):sum (n+1) f=f 0+sum n (fun i=>f (i+1)):=by
 induction n with
 | zero=>rw [sum,sum,sum,zero_add,add_zero]
 | succ n ih=>rw [sum,ih,sum];ac_rfl
theorem sum_rev (n:Nat)(f:Nat->El m p):sum n (fun i=>f (n-1-i))=sum n f:=by
 induction n generalizing f with
 | zero=>rfl
 | succ n ih=>
  rw [sum_head,sum,Nat.add_sub_cancel,Nat.sub_zero,add_comm (f n),<- ih];congr 1;exact sum_congr fun i hi=>by congr 1;omega
theorem sum_tri (f:Nat->Nat->El m p)(n:Nat):sum n (fun s=>sum (s+1) (fun i=>f i (s-i)))=sum n (fun i=>sum (n-i) (fun j=>f i j)):=by
 induction n with
 | zero=>rfl
 | succ n ih=>
  rw [sum,ih];have e:sum (n+1) (fun i=>sum (n+1-i) (fun j=>f i j))=sum (n+1) (fun i=>sum (n-i) (fun j=>f i j)+f i (n-i)):=by
   refine sum_congr fun i hi=>?_
   rw [show n+1-i=n-i+1 by omega,sum]
  rw [e,sum_add];congr 1;rw [sum,Nat.sub_self];exact (add_zero _).symm
end El
abbrev Po (m p:Nat):=Nat->El m p
namespace Po
variable {m p:Nat} [F:FF m p]
instance:Add (Po m p):=⟨fun a b i=>a i+b i⟩
instance:Mul (Po m p):=⟨fun a b k=>El.sum (k+1) fun i=>a i*b (k-i)⟩
def mon (d:Nat)(c:El m p):Po m p:=fun i=>if i=d then c else 0
def gu (c:El m p):Po m p:=mon 0 c
instance:OfNat (Po m p) 0:=⟨fun _=>0⟩
instance:OfNat (Po m p) 1:=⟨gu 1⟩
theorem ext' {a b:Po m p}(h:∀ i,a i=b i):a=b:=have _:=F;funext h
theorem ik (a b:Po m p)(i:Nat):(a+b) i=a i+b i:=have _:=F;rfl
theorem gP (a b:Po m p)(k:Nat):(a*b) k=El.sum (k+1) fun i=>a i*b (k-i):=rfl
theorem D9 (i:Nat):(0:Po m p) i=0:=have _:=F;rfl
theorem gQ (d:Nat)(c:El m p)(i:Nat):mon d c i=if i=d then c else 0:=have _:=F;rfl
theorem add_comm (a b:Po m p):a+b=b+a:=ext' fun i=>El.add_comm _ _
theorem add_assoc (a b c:Po m p):a+b+c=a+(b+c):=ext' fun i=>El.add_assoc _ _ _
theorem add_self (a:Po m p):a+a=0:=ext' fun i=>El.add_self _
theorem zero_add (a:Po m p):0+a=a:=ext' fun i=>El.zero_add _
theorem add_zero (a:Po m p):a+0=a:=ext' fun i=>El.add_zero _
theorem mul_comm (a b:Po m p):a*b=b*a:=by
 apply ext';intro k;rw [gP,gP,<- El.sum_rev];refine El.sum_congr fun i hi=>?_
 rw [El.mul_comm,show k-(k+1-1-i)=i by omega,show k+1-1-i=k-i by omega]
theorem mul_assoc (a b c:Po m p):a*b*c=a*(b*c):=by
 apply ext';intro k;rw [gP,gP];have e1:(El.sum (k+1) fun s=>(a*b) s*c (k-s))=El.sum (k+1) fun s=>El.sum (s+1) fun i=>(fun i j=>a i*(b j*c (k-i-j))) i (s-i):=by
  refine El.sum_congr fun s hs=>?_
  rw [gP,El.sum_mul];refine El.sum_congr fun i hi=>?_
  show a i*b (s-i)*c (k-s)=a i*(b (s-i)*c (k-i-(s-i)));rw [El.mul_assoc,show k-i-(s-i)=k-s by omega]
 refine e1.trans ((El.sum_tri (fun i j=>a i*(b j*c (k-i-j))) (k+1)).trans ?_);refine El.sum_congr fun i hi=>?_
 rw [gP,El.mul_sum,show k+1-i=k-i+1 by omega]
theorem mul_add (a b c:Po m p):a*(b+c)=a*b+a*c:=by
 apply ext';intro k;rw [ik,gP,gP,gP,<- El.sum_add];exact El.sum_congr fun i _=>El.mul_add _ _ _
theorem add_mul (a b c:Po m p):(a+b)*c=a*c+b*c:=by rw [mul_comm,mul_add,mul_comm c a,mul_comm c b]
theorem mul_zero (a:Po m p):a*0=0:=by
 apply ext';intro k;rw [gP];exact El.sum_zero' fun i _=>El.mul_zero _
theorem mF (a:Po m p)(d:Nat)(c:El m p)(i:Nat):(a*mon d c) i=if i<d then 0 else a (i-d)*c:=by
 rw [gP];by_cases h:i<d
 ·rw [if_pos h];refine El.sum_zero' fun j hj=>?_
  rw [gQ,if_neg (by omega),El.mul_zero]
 rw [if_neg h,El.sum_one _ (i-d) _ (by omega)]
 ·rw [gQ,if_pos (by omega)]
 intro j hj hne;rw [gQ,if_neg (by omega),El.mul_zero]
theorem nj (a:Po m p)(c:El m p)(i:Nat):(a*gu c) i=a i*c:=by
 rw [gu,mF,if_neg (by omega),Nat.sub_zero]
theorem mul_one (a:Po m p):a*1=a:=ext' fun i=>(nj a 1 i).trans (El.mul_one _)
theorem one_mul (a:Po m p):1*a=a:=by rw [mul_comm,mul_one]
theorem zero_mul (a:Po m p):0*a=0:=by rw [mul_comm,mul_zero]
instance:Std.Commutative (α:=Po m p) (·+·):=⟨add_comm⟩
instance:Std.Associative (α:=Po m p) (·+·):=⟨add_assoc⟩
instance:Std.Commutative (α:=Po m p) (·*·):=⟨mul_comm⟩
instance:Std.Associative (α:=Po m p) (·*·):=⟨mul_assoc⟩
theorem add_eq_zero {a b:Po m p}(h:a+b=0):a=b:=ext' fun i=>El.add_eq_zero (congrFun h i)
def aP (a:Po m p)(n:Nat):Prop:=∀ i,n<=i->a i=0
theorem aP.mono {a:Po m p}{n k:Nat}(h:aP a n)(hk:n<=k):aP a k:=have _:=F;fun i hi=>h i (by omega)
theorem aP.add {a b:Po m p}{n:Nat}(h:aP a n)(k:aP b n):aP (a+b) n:=fun i hi=>by rw [ik,h i hi,k i hi,El.add_zero]
theorem aP.mul {a b:Po m p}{n k:Nat}(h:aP a n)(hb:aP b k):aP (a*b) (n+k-1):=by
 intro i hi;rw [gP];refine El.sum_zero' fun j hj=>?_
 by_cases hn:n<=j
 ·rw [h j hn,El.zero_mul]
 rw [hb (i-j) (by omega),El.mul_zero]
theorem aP.mon (d:Nat)(c:El m p):aP (mon d c) (d+1):=have _:=F;fun i hi=>if_neg (by omega)
theorem tp {a b:Po m p}{n k:Nat}(h:aP a (n+1))(hb:aP b (k+1)):(a*b) (n+k)=a n*b k:=by
 rw [gP,El.sum_one _ n _ (by omega)]
 ·rw [Nat.add_sub_cancel_left]
 intro i hi hne;by_cases h':n<i
 ·rw [h i (by omega),El.zero_mul]
 rw [hb (n+k-i) (by omega),El.mul_zero]
theorem qH {a:Po m p}:∀ {n:Nat},aP a n->a≠0->∃ d,d<n/\a d≠0/\aP a (d+1):=by
 intro n
 induction n with
 | zero=>intro h h0;exact absurd (ext' fun i=>h i (by omega)) h0
 | succ n ih=>
  intro h h0;by_cases e:a n=0;rotate_left
  ·exact⟨n,by omega,e,h⟩
  obtain⟨d,hd,k⟩:=ih (fun i hi=>by
   by_cases hi':i=n
   ·rw [hi',e]
   exact h i (by omega)) h0
  exact⟨d,by omega,k⟩
theorem Ea {a:Po m p}{i:Nat}(h:a i≠0):a≠0:=have _:=F;fun e=>h (by rw [e];rfl)
theorem mul_eq_zero {a b:Po m p}{n k:Nat}(h:aP a n)(hb:aP b k)(e:a*b=0)(ha:a≠0):b=0:=by
 apply Classical.byContradiction;intro h0;obtain⟨d,_,d1,d2⟩:=qH h ha;obtain⟨g,_,g1,g2⟩:=qH hb h0;have:=tp d2 g2;rw [e] at this;exact El.mul_ne d1 g1 this.symm
def ev (n:Nat)(a:Po m p)(x:El m p):El m p:=El.sum n fun i=>a i*El.pow x i
theorem mG {n N:Nat}{a:Po m p}(h:aP a n)(hN:n<=N)(x:El m p):ev N a x=ev n a x :=
 El.sum_upto _ hN fun i hi=>by rw [h i hi,El.zero_mul]
theorem qI {n k:Nat}{a:Po m p}(h:aP a n)(h':aP a k)(x:El m p):ev n a x=ev k a x:=by
 rcases Nat.le_total n k with hh | hh
 ·exact (mG h hh x).symm
 exact mG h' hh x
theorem tq (n:Nat)(a b:Po m p)(x:El m p):ev n (a+b) x=ev n a x+ev n b x:=by
 unfold ev;rw [<- El.sum_add];exact El.sum_congr fun i _=>by rw [ik,El.add_mul]
theorem oQ {n k N:Nat}{a b:Po m p}(h:aP a n)(hb:aP b k)(hN:n+k<=N)(x:El m p):ev N (a*b) x=ev n a x*ev k b x:=by
 unfold ev;have e1:(El.sum N fun s=>(a*b) s*El.pow x s)=El.sum N fun s=>El.sum (s+1) fun i=>(fun i j=>(a i*El.pow x i)*(b j*El.pow x j)) i (s-i):=by
  refine El.sum_congr fun s hs=>?_
  rw [gP,El.sum_mul];refine El.sum_congr fun i hi=>?_
  show a i*b (s-i)*El.pow x s=(a i*El.pow x i)*(b (s-i)*El.pow x (s-i));have:El.pow x s=El.pow x i*El.pow x (s-i):=by rw [<- El.pow_add,show i+(s-i)=s by omega]
  rw [this]
  ac_rfl
 refine e1.trans ((El.sum_tri (fun i j=>(a i*El.pow x i)*(b j*El.pow x j)) N).trans ?_);rw [El.sum_mul];rw [El.sum_upto (n:=n) (N:=N) _ (by omega)];rotate_left
 ·intro i hi;refine El.sum_zero' fun j _=>?_
  show (a i*El.pow x i)*(b j*El.pow x j)=0;rw [h i hi,El.zero_mul,El.zero_mul]
 refine El.sum_congr fun i hi=>?_
 show El.sum (N-i) (fun j=>(a i*El.pow x i)*(b j*El.pow x j))=_;rw [<- El.mul_sum];congr 1;exact El.sum_upto _ (by omega) fun j hj=>by rw [hb j hj,El.zero_mul]
theorem oS (d:Nat)(c x:El m p):ev (d+1) (mon d c) x=c*El.pow x d:=by
 unfold ev;rw [El.sum_one _ d _ (by omega)]
 ·rw [gQ,if_pos rfl]
 intro i hi hne;rw [gQ,if_neg hne,El.zero_mul]
def fO (a:Po m p)(c:El m p)(N:Nat):Po m p:=fun i=>El.sum (N-i) fun j=>a (i+1+j)*El.pow c j
theorem ya {a:Po m p}{c:El m p}{n:Nat}:aP (fO a c n) n:=fun i hi=>by
 show El.sum (n-i) _=0;rw [show n-i=0 by omega];rfl
theorem yb {a:Po m p}(c:El m p){n:Nat}(h:aP a (n+1))(i:Nat):fO a c n i=a (i+1)+c*fO a c n (i+1):=by
 show El.sum (n-i) _=a (i+1)+c*El.sum (n-(i+1)) _;by_cases hi:i<n;rotate_left
 ·rw [show n-i=0 by omega,show n-(i+1)=0 by omega,El.sum,El.sum,El.mul_zero,El.add_zero,h (i+1) (by omega)]
 rw [show n-i=n-(i+1)+1 by omega,El.sum_head,El.mul_sum,Nat.add_zero,El.pow,El.mul_one];congr 1;refine El.sum_congr fun j _=>?_
 rw [El.pow,show i+1+(j+1)=i+1+1+j by omega]
 ac_rfl
theorem yc {a:Po m p}(c:El m p){n:Nat}(h:aP a (n+1))(x:El m p):ev (n+1) a x=(x+c)*ev n (fO a c n) x+(a 0+c*fO a c n 0):=by
 have e1:ev (n+1) a x=a 0+El.sum n fun i=>a (i+1)*El.pow x (i+1):=by
  unfold ev;rw [El.sum_head,El.pow,El.mul_one]
 have e2:(El.sum n fun i=>a (i+1)*El.pow x (i+1))=x*ev n (fO a c n) x+c*El.sum n fun i=>fO a c n (i+1)*El.pow x (i+1):=by
  unfold ev;rw [El.mul_sum,El.mul_sum,<- El.sum_add];refine El.sum_congr fun i _=>?_
  have:=yb c h i;have e:a (i+1)=fO a c n i+c*fO a c n (i+1):=by
   rw [this,El.add_assoc,El.add_self,El.add_zero]
  rw [e,El.add_mul,El.pow];congr 1<;>ac_rfl
 have e3:ev n (fO a c n) x=fO a c n 0+El.sum n fun i=>fO a c n (i+1)*El.pow x (i+1):=by
  rw [<- mG (ya (a:=a) (c:=c) (n:=n)) (Nat.le_succ n) x];unfold ev;rw [El.sum_head,El.pow,El.mul_one]
 rw [e1,e2,El.add_mul];have e4:c*ev n (fO a c n) x=c*fO a c n 0+c*El.sum n fun i=>fO a c n (i+1)*El.pow x (i+1):=by rw [e3,El.mul_add]
 rw [e4];have:∀ A B C D:El m p,A+(B+C)=B+(D+C)+(A+D):=by
  intro A B C D;have:B+(D+C)+(A+D)=A+(B+C)+(D+D):=by ac_rfl
  rw [this,El.add_self,El.add_zero]
 exact this _ _ _ _
theorem Eb:∀ (n:Nat) (a:Po m p),aP a (n+1)->∀ rs:List (El m p),rs.Nodup->(∀ x∈rs,ev (n+1) a x=0)->n<rs.length->a=0:=by
 intro n
 induction n with
 | zero=>
  intro a h rs hn hr hl;cases rs with
  | nil=>simp at hl
  | cons c rs=>
   have:=hr c (List.mem_cons_self ..);unfold ev at this;rw [El.sum,El.sum,El.zero_add,El.pow,El.mul_one] at this;apply ext';intro i;cases i with
   | zero=>exact this
   | succ i=>exact h _ (by omega)
 | succ n ih=>
  intro a h rs hn hr hl;cases rs with
  | nil=>simp at hl
  | cons c rs=>
   rw [List.nodup_cons] at hn;have hc:=hr c (List.mem_cons_self ..);have e0:a 0+c*fO a c (n+1) 0=0:=by
    have:=yc c h c;rw [hc,El.add_self,El.zero_mul,El.zero_add] at this;exact this.symm
   have hb:fO a c (n+1)=0:=by
    refine ih _ ya rs hn.2 ?_ (by simp at hl;omega)
    intro x hx;have:=yc c h x;rw [hr x (List.mem_cons_of_mem _ hx),e0,El.add_zero] at this;rcases El.mul_eq_zero this.symm with h' | h'
    rotate_left
    ·exact h'
    have:=El.add_eq_zero h';subst this;exact absurd hx hn.1
   apply ext';intro i;cases i with
   | zero=>
    rw [hb] at e0;rw [show (0:Po m p) 0=0 from rfl,El.mul_zero,El.add_zero] at e0;exact e0
   | succ i=>
    have:=yb c h i;rw [hb] at this;rw [show (0:Po m p) i=0 from rfl,show (0:Po m p) (i+1)=0 from rfl,El.mul_zero,El.add_zero] at this;exact this.symm
end Po
end Go.Proofs.YtgccjgpdjkhpdaaGreat.B
namespace Go.Proofs.YtgccjgpdjkhpdaaGreat.B
open Go.RowKit Go.Proofs.YtgccjgpdjkhpdaaGreatW.PrintWords Go.Proofs.YtgccjgpdjkhpdaaGreatW.PrintLast Go.Proofs.YtgccjgpdjkhpdaaGreatW.PrintMore
set_option linter.unusedVariables false
set_option linter.unusedSimpArgs false
namespace Po
variable {m p:Nat} [F:FF m p]
def gS (X:El m p):Po m p:=1+mon 1 X
def bh:List (El m p×El m p)->Po m p
 | []=>1
 | x :: es=>gS x.1*bh es
def om (b:Nat):List (El m p×El m p)->Po m p
 | []=>0
 | x :: es=>gu (x.2*El.pow x.1 b)*bh es+gS x.1*om b es
def vv (b N:Nat):List (El m p×El m p)->Po m p
 | []=>0
 | x :: es=>gu (x.2*El.pow x.1 (b+N))*bh es+gS x.1*vv b N es
def nk (b N:Nat)(x:El m p×El m p):Po m p:=fun i=>if i<N then x.2*El.pow x.1 (b+i) else 0
def dg (b N:Nat):List (El m p×El m p)->Po m p
 | []=>0
 | x :: es=>nk b N x+dg b N es
theorem Ec (b N:Nat)(hN:1<=N)(x:El m p×El m p):gS x.1*nk b N x=gu (x.2*El.pow x.1 b)+gu (x.2*El.pow x.1 (b+N))*mon N 1:=by
 apply ext';intro i;rw [gS,add_mul,one_mul,mul_comm (mon 1 x.1),ik,ik,mF,mF];unfold gu;simp only [gQ,nk];by_cases h0:i=0
 ·subst h0;rw [if_pos (show 0<N by omega),if_pos (show 0<1 by omega),if_pos rfl,if_pos (show 0<N by omega),Nat.add_zero]
 rw [if_neg (show ¬ i<1 by omega),if_neg h0,El.zero_add];by_cases h1:i<N
 ·rw [if_pos h1,if_pos h1,if_pos (show i-1<N by omega)];have e:El.pow x.1 (b+i)=El.pow x.1 (b+(i-1))*x.1:=by
   rw [show b+i=b+(i-1)+1 by omega,El.pow]
  rw [e,<- El.mul_assoc,El.add_self]
 rw [if_neg h1,El.zero_add,if_neg h1];by_cases h2:i=N;rotate_left
 ·rw [if_neg (show ¬ i-1<N by omega),if_neg (show ¬ i-N=0 by omega),El.zero_mul,El.zero_mul]
 subst h2;rw [if_pos (show i-1<i by omega),if_pos (show i-i=0 by omega),El.mul_one];have e:El.pow x.1 (b+i)=El.pow x.1 (b+(i-1))*x.1:=by
  rw [show b+i=b+(i-1)+1 by omega,El.pow]
 rw [e,<- El.mul_assoc]
theorem yd (b N:Nat)(hN:1<=N):∀ es:List (El m p×El m p),bh es*dg b N es=om b es+vv b N es*mon N 1:=by
 intro es
 induction es with
 | nil=>rw [bh,dg,om,vv,mul_zero,zero_mul,add_zero]
 | cons x es ih=>
  rw [bh,dg,om,vv,mul_add];have e1:gS x.1*bh es*nk b N x=bh es*(gS x.1*nk b N x):=by ac_rfl
  have e2:gS x.1*bh es*dg b N es=gS x.1*(bh es*dg b N es):=by ac_rfl
  rw [e1,e2,Ec b N hN,ih,mul_add,mul_add,add_mul];have:∀ A B C D A' B' D':Po m p,A=A'->B=B'->D=D'->A+B+(C+D)=A'+C+(B'+D'):=by
   intro A B C D A' B' D' h1 h2 h3;subst h1;subst h2;subst h3
   ac_rfl
  exact this _ _ _ _ _ _ _ (by ac_rfl) (by ac_rfl) (by ac_rfl)
theorem lM (X:El m p):aP (gS X) 2:=aP.add ((aP.mon 0 1).mono (by omega)) (aP.mon 1 X)
theorem iY:∀ es:List (El m p×El m p),aP (bh es) (es.length+1):=by
 intro es
 induction es with
 | nil=>exact aP.mon 0 1
 | cons x es ih=>
  rw [bh];exact ((lM x.1).mul ih).mono (by simp<;>omega)
theorem lN (b:Nat):∀ es:List (El m p×El m p),aP (om b es) es.length:=by
 intro es
 induction es with
 | nil=>exact fun i _=>rfl
 | cons x es ih=>
  rw [om];refine aP.add ?_ ?_
  ·exact ((aP.mon 0 _).mul (iY es)).mono (by simp<;>omega)
  by_cases h:es.length=0;rotate_left
  ·exact ((lM x.1).mul ih).mono (by simp<;>omega)
  have:es=[]:=List.length_eq_zero_iff.1 h;subst this;rw [om,mul_zero];exact fun i _=>rfl
theorem Ed (b N:Nat):∀ es:List (El m p×El m p),aP (vv b N es) es.length:=by
 intro es
 induction es with
 | nil=>exact fun i _=>rfl
 | cons x es ih=>
  rw [vv];refine aP.add ?_ ?_
  ·exact ((aP.mon 0 _).mul (iY es)).mono (by simp<;>omega)
  by_cases h:es.length=0;rotate_left
  ·exact ((lM x.1).mul ih).mono (by simp<;>omega)
  have:es=[]:=List.length_eq_zero_iff.1 h;subst this;rw [vv,mul_zero];exact fun i _=>rfl
theorem ye:∀ es:List (El m p×El m p),bh es 0=1:=by
 intro es
 induction es with
 | nil=>rfl
 | cons x es ih=>
  rw [bh,gP,El.sum,El.sum,El.zero_add,Nat.sub_self,ih,El.mul_one];show (if (0:Nat)=0 then (1:El m p) else 0)+(if (0:Nat)=1 then x.1 else 0)=1;rw [if_pos rfl,if_neg (by omega),El.add_zero]
theorem yf (X y:El m p):ev 2 (gS X) y=1+X*y:=by
 rw [gS,tq];show ev 2 (mon 0 1) y+ev 2 (mon 1 X) y=1+X*y;rw [mG (aP.mon 0 1) (by omega),oS,mG (aP.mon 1 X) (by omega),oS,El.pow,El.pow,El.pow,El.mul_one,El.one_mul]
def dv (y:El m p):List (El m p)->El m p
 | []=>1
 | x :: l=>(1+x*y)*dv y l
theorem tr (y:El m p):∀ es:List (El m p×El m p),ev (es.length+1) (bh es) y=dv y (es.map Prod.fst):=by
 intro es
 induction es with
 | nil=>
  show ev (0+1) (mon 0 1) y=1;rw [oS,El.pow,El.mul_one]
 | cons x es ih=>
  rw [bh,List.map_cons,dv,<- ih,<- yf];have:=oQ (lM x.1) (iY es) (Nat.le_refl _) y;rw [<- this];exact qI (((lM x.1).mul (iY es)).mono (by simp<;>omega)) (((lM x.1).mul (iY es)).mono (by omega)) y
theorem Ee (c:El m p):aP (gu c) 1:=aP.mon 0 c
theorem Ef (c y:El m p):ev 1 (gu c) y=c:=by rw [gu,oS,El.pow,El.mul_one]
theorem Eg (b:Nat)(x:El m p×El m p)(es:List (El m p×El m p))(y:El m p) :
  ev (es.length+1) (om b (x :: es)) y=x.2*El.pow x.1 b*dv y (es.map Prod.fst)+(1+x.1*y)*ev es.length (om b es) y:=by
 have h1:ev (es.length+2) (om b (x :: es)) y=x.2*El.pow x.1 b*dv y (es.map Prod.fst)+(1+x.1*y)*ev es.length (om b es) y:=by
  rw [om,tq];congr 1;rotate_left
  ·rw [<- yf];exact oQ (N:=es.length+2) (lM x.1) (lN b es) (by omega) y
  have:=oQ (N:=es.length+2) (Ee (x.2*El.pow x.1 b)) (iY es) (by omega) y;rw [Ef,tr] at this;exact this
 rw [<- h1];exact (mG (lN b (x :: es)) (by simp) y).symm
theorem tt (y:El m p):∀ (l:List (El m p)) (x:El m p),x∈l->x*y=1->dv y l=0:=by
 intro l
 induction l with
 | nil=>intro x h;cases h
 | cons a l ih=>
  intro x h e;rw [dv];rcases List.mem_cons.1 h with h | h
  rotate_left
  ·rw [ih x h e,El.mul_zero]
  subst h;rw [e,El.add_self,El.zero_mul]
theorem qJ (y:El m p):∀ (l:List (El m p)),(∀ x∈l,x*y≠1)->dv y l≠0:=by
 intro l
 induction l with
 | nil=>intro _;exact El.one_ne
 | cons a l ih=>
  intro h;rw [dv];refine El.mul_ne ?_ (ih fun x hx=>h x (List.mem_cons_of_mem _ hx));intro e;exact h a (List.mem_cons_self ..) (El.add_eq_zero e).symm
theorem tu (b:Nat):∀ (es:List (El m p×El m p)) (x:El m p×El m p) (y:El m p),(es.map Prod.fst).Nodup->x∈es->x.1*y=1->
  ev es.length (om b es) y=x.2*El.pow x.1 b*dv y ((es.map Prod.fst).filter fun z=>!decide (z=x.1)):=by
 intro es
 induction es with
 | nil=>intro x y _ h;cases h
 | cons a es ih=>
  intro x y hn h e;rw [List.map_cons,List.nodup_cons] at hn;show ev (es.length+1) _ y=_;rw [Eg,List.map_cons];rcases List.mem_cons.1 h with h | h
  ·subst h;rw [e,El.add_self,El.zero_mul,El.add_zero,List.filter_cons,if_neg (by simp)];congr 2;symm;rw [List.filter_eq_self];intro z hz;have:z≠x.1:=fun e=>hn.1 (e ▸ hz)
   simp [this]
  have hx:x.1∈es.map Prod.fst:=List.mem_map_of_mem h;have hne:a.1≠x.1:=fun e=>hn.1 (e ▸ hx)
  rw [tt y _ x.1 hx e,El.mul_zero,El.zero_add,ih x y hn.2 h e,List.filter_cons,if_pos (by simp [hne]),dv]
  ac_rfl
theorem Eh (t u tL uL q:Po m p)(h:t*uL+tL*u=1):(q*t+tL)*u+t*(q*u+uL)=1:=by
 rw [add_mul,mul_add,<- h];have:q*t*u+tL*u+(t*(q*u)+t*uL)=t*uL+tL*u+(q*t*u+t*(q*u)):=by ac_rfl
 rw [this,show t*(q*u)=q*t*u by ac_rfl,add_self,add_zero]
theorem Ei (a:Po m p)(N i:Nat):(a*mon N 1:Po m p) (i+N)=a i:=by
 rw [mF,if_neg (by omega),Nat.add_sub_cancel,El.mul_one]
theorem Ej (N:Nat)(es:List (El m p×El m p))(b dr dt B:Nat)(t r u tL uL:Po m p)(hN:1<=N)(hes:2*es.length<=N)
  (hn:(es.map Prod.fst).Nodup) (h0:∀ x∈es,x.1≠0/\x.2≠0)
  (hr:r=t*dg b N es+u*mon N 1) (hdet:t*uL+tL*u=1) (ht:aP t (dt+1)) (hdt:2*dt<=N) (hrd:aP r (dr+1)) (hdr:2*dr<N) (hu:aP u B) (htL:aP tL B) (huL:aP uL B) :
  t 0≠0/\∃ c,t 0*c=1/\(∀ i,bh es i=t i*c)/\(∀ i,om b es i=r i*c):=by
 have hk:=yd b N hN es;have e1:t*om b es+bh es*r=(t*vv b N es+bh es*u)*mon N 1:=by
  have a1:t*(bh es*dg b N es)=t*om b es+t*vv b N es*mon N 1:=by rw [hk,mul_add];ac_rfl
  have a2:bh es*r=t*(bh es*dg b N es)+bh es*u*mon N 1:=by rw [hr,mul_add];ac_rfl
  rw [a2,a1,add_mul];have:∀ A B C:Po m p,A+(A+B+C)=B+C:=by
   intro A B C;have:A+(A+B+C)=B+C+(A+A):=by ac_rfl
   rw [this,add_self,add_zero]
  exact this _ _ _
 have d1:aP (t*om b es+bh es*r) N:=by
  refine aP.add ?_ ?_
  ·exact (ht.mul (lN b es)).mono (by omega)
  exact ((iY es).mul hrd).mono (by omega)
 have e2:t*vv b N es+bh es*u=0:=by
  apply ext';intro i;have:=d1 (i+N) (by omega);rw [e1,Ei] at this;exact this
 have e3:t*om b es=bh es*r:=by
  apply add_eq_zero;rw [e1,e2,zero_mul]
 have e4:t*vv b N es=bh es*u:=add_eq_zero e2;obtain⟨h,hh⟩:∃ h,h=bh es*uL+vv b N es*tL:=⟨_,rfl⟩;have e5:bh es=t*h:=by
  have:bh es=bh es*(t*uL+tL*u):=by rw [hdet,mul_one]
  rw [this,hh,mul_add,mul_add];congr 1
  ·ac_rfl
  have:bh es*(tL*u)=(bh es*u)*tL:=by ac_rfl
  rw [this,<- e4];ac_rfl
 have hhd:∃ D,aP h D:=by
  rw [hh];refine⟨(es.length+1+B-1)+(es.length+B-1),?_⟩;exact aP.add (((iY es).mul huL).mono (by omega)) (((Ed b N es).mul htL).mono (by omega))
 obtain⟨D,hhD⟩:=hhd;have hl0:bh es≠0:=Ea (i:=0) (by rw [ye];exact El.one_ne)
 have ht0:t≠0:=by rintro rfl;rw [zero_mul] at e5;exact hl0 e5
 have hh0:h≠0:=by rintro rfl;rw [mul_zero] at e5;exact hl0 e5
 have e6:om b es=h*r:=by
  apply add_eq_zero;refine mul_eq_zero (n:=dt+1) (k:=es.length+(D+(dr+1)-1)) ht ?_ ?_ ht0
  ·exact aP.add ((lN b es).mono (by omega)) ((hhD.mul hrd).mono (by omega))
  rw [mul_add,e3,e5,show t*(h*r)=t*h*r by ac_rfl,add_self]
 obtain⟨g,hg1,hg2,hg3⟩:=qH hhD hh0;obtain⟨d,hd1,hd2,hd3⟩:=qH ht ht0;have htop:(bh es) (d+g)≠0:=by
  rw [e5,tp hd3 hg3];exact El.mul_ne hd2 hg2
 have hdg:d+g<=es.length:=by
  apply Classical.byContradiction;intro hc;exact htop (iY es _ (by omega))
 have hlen:es.length<=d:=by
  apply Classical.byContradiction;intro hc;obtain⟨inv,hinv⟩:∃ inv:El m p->El m p,∀ a,a≠0->a*inv a=1:=by
   refine⟨fun a=>if h:a=0 then 0 else (El.inv_ex a h).choose,?_⟩;intro a ha;simp only [dif_neg ha];exact (El.inv_ex a ha).choose_spec.2
  have hinj:∀ a c:El m p,a≠0->c≠0->inv a=inv c->a=c:=by
   intro a c ha hc' e;have h1:=hinv a ha;have h2:=hinv c hc';rw [<- e] at h2;have hi:inv a≠0:=by intro hz;rw [hz,El.mul_zero] at h1;exact El.one_ne h1.symm
   exact El.mul_left_cancel hi (by rw [El.mul_comm,h1,El.mul_comm,h2])
  refine ht0 (Eb d t hd3 ((es.map Prod.fst).map inv) ?_ ?_ (by simp;omega))
  ·have hn':es.Pairwise (fun a b=>a.1≠b.1):=List.pairwise_map.1 hn;rw [List.map_map];refine List.pairwise_map.2 (List.Pairwise.imp_of_mem ?_ hn');intro x y hx hy hne e;exact hne (hinj _ _ (h0 x hx).1 (h0 y hy).1 e)
  intro y hy;rw [List.map_map,List.mem_map] at hy;obtain⟨x,hx,rfl⟩:=hy;have hxy:x.1*inv x.1=1:=hinv _ (h0 x hx).1;have r1:ev (es.length+1) (bh es) (inv x.1)=0:=by
   rw [tr];exact tt _ _ x.1 (List.mem_map_of_mem hx) hxy
  have r2:ev es.length (om b es) (inv x.1)≠0:=by
   rw [tu b es x _ hn hx hxy];refine El.mul_ne (El.mul_ne (h0 x hx).2 (El.pow_ne (h0 x hx).1 _)) (qJ _ _ ?_);intro z hz e;rw [List.mem_filter] at hz;obtain⟨hz1,hz2⟩:=hz;have:z=x.1:=by
    have hi:inv x.1≠0:=by intro hz;rw [hz,El.mul_zero] at hxy;exact El.one_ne hxy.symm
    exact El.mul_left_cancel hi (by rw [El.mul_comm,e,El.mul_comm,hxy])
   simp [this] at hz2
  have s1:ev (d+1) t (inv x.1)*ev (g+1) h (inv x.1)=0:=by
   have q:=oQ hd3 hg3 (N:=d+g+2) (by omega) (inv x.1);rw [<- e5] at q;rw [<- q,<- r1];exact qI (by rw [e5];exact (hd3.mul hg3).mono (by omega)) (iY es) _
  have s2:ev (g+1) h (inv x.1)≠0:=by
   intro hz;apply r2;have q1:=oQ hg3 hrd (N:=g+dr+2) (by omega) (inv x.1);rw [hz,El.zero_mul,<- e6] at q1;rw [<- q1];exact qI (lN b es) (e6 ▸ (hg3.mul hrd).mono (by omega)) _
  rcases El.mul_eq_zero s1 with h' | h'
  ·exact h'
  exact absurd h' s2
 have hg0:g=0:=by omega
 subst hg0;have hcon:h=gu (h 0):=by
  apply ext';intro i;show h i=if i=0 then h 0 else 0
  by_cases hi:i=0
  ·rw [if_pos hi,hi]
  rw [if_neg hi,hg3 i (by omega)]
 have hL:∀ i,bh es i=t i*h 0:=by
  intro i;rw [e5,hcon,nj];rfl
 have h00:t 0*h 0=1:=by rw [<- hL 0,ye]
 refine⟨?_,h 0,h00,hL,?_⟩;rotate_left
 ·intro i;rw [e6,hcon,mul_comm,nj];rfl
 intro hz;rw [hz,El.zero_mul] at h00;exact El.one_ne h00.symm
end Po
end Go.Proofs.YtgccjgpdjkhpdaaGreat.B
namespace Go.Proofs.YtgccjgpdjkhpdaaGreat.B
open Go.RowKit Go.Proofs.YtgccjgpdjkhpdaaGreatW.PrintWords Go.Proofs.YtgccjgpdjkhpdaaGreatW.PrintLast Go.Proofs.YtgccjgpdjkhpdaaGreatW.PrintMore
set_option linter.unusedVariables false
set_option linter.unusedSimpArgs false
theorem qK (x:Nat)(h:x<256):Go.bits .and .u8 (x:Int) 255=(x:Int):=by
 have:=(bits_nat .u8 8 (by decide) (fun n h0 h1=>by rw [IntKind.wrap_u8];omega) x 255 h (by decide)).1
 rw [show (255:Int)=((255:Nat):Int) from rfl,this,show x &&& 255=x%256 from Nat.and_two_pow_sub_one_eq_mod (n:=8) x,Nat.mod_eq_of_lt h]
def bU (ws:List Nat)(i:Nat):List Nat:=ws.take i++List.replicate (ws.length-i) 0
theorem qN (ws:List Nat)(i:Nat)(h:i<=ws.length):(bU ws i).length=ws.length:=by unfold bU;simp;omega
theorem oT (ws:List Nat):bU ws ws.length=ws:=by unfold bU;simp
theorem qO (ws:List Nat)(i:Nat)(h:i<ws.length):(bU ws i).set i (ws.getD i 0)=bU ws (i+1):=by
 unfold bU;have hl:(ws.take i).length=i:=by simp;omega
 rw [List.set_append_right _ _ (by omega),hl,Nat.sub_self,show ws.length-i=(ws.length-(i+1))+1 by omega,List.replicate_succ,List.set_cons_zero,pm ws i h,List.append_assoc];rfl
theorem Ek (ws:List Nat)(i:Nat)(h:i<ws.length):ws.set i (ws.getD i 0)=ws:=by
 apply List.ext_getElem
 ·simp
 intro j h1 h2;rw [List.getElem_set]
 split
 rotate_left
 ·rfl
 rename_i e
 subst e;simp [List.getD,List.getElem?_eq_getElem h]
set_option maxHeartbeats 1000000 in
theorem Em (w:World)(d rs gf g n dn:Nat)(ws:List Nat)(hD:fP w d rs gf)(hU:aA w g ws)(hw:ab 8 ws)(hn:ws.length=n)(hn1:1<=n)(hn2:n<=1000)(hd:dn<=n)(he:n-dn<=250)(hs:∀ i,i<n-dn->ao 8 285 (gx 8 285 i) ws=0) :
  Calls Tryz.prog 165 #[.pointer (some ⟨d,0,none⟩),.slice (some ⟨g,0,none⟩) n n,.int .i64 (dn:Int)] w fun e w'=>e=.returned .nilIface/\Below w.heap.size w w':=by
 obtain⟨hD1,hD2,hD3⟩:=hD;have c0:w.cell? ⟨d,0,none⟩=some (.pointer (some ⟨rs,0,none⟩)):=hD1.cell 0;have HD1:=Mw hD1;have HD2:=Mw hD2;have HD3:=Mw hD3;have HU:=Mw hU;have HW:=Mw hw;have HN:=Mw hn;have HS:=Mw hs;have mk:=sa n (by omega);clear hD1 hD2 hD3 hU hw hn hs
 go_enter Tryz.func165,Tryz.ntmps165
 go_wp2
 clear mk c0;obtain⟨gi,hgi⟩:∃ gi,gi=w.heap.size:=⟨_,rfl⟩;rw [<- hgi];obtain⟨w1,hw1⟩:∃ w1,w1=w.alloc (.cells (ac .i64 (ak (List.replicate n 0))).toArray 3):=⟨_,rfl⟩;rw [<- hw1];have HZ:=Mw (show ag w1 gi (bU ws 0) by unfold bU;rw [hw1,hgi,HN.out];exact Blk.new _ _ _)
 have HB1:=Mw (show Below w.heap.size w w1 by rw [hw1];exact ai (Below.refl _ _) _)
 have HGI:=Mw hgi;clear hw1 hgi
 go_loopw [9] (fun vi wr=>∃ i:Nat,vi=.int .i64 (i:Int)/\i<=n/\Aside0 (Below w.heap.size w wr)/\Aside0 (ag wr gi (bU ws i))) (fun vi _=>(n-intOf vi).toNat)
 case atStart=>exact⟨0,rfl,by omega,HB1,HZ⟩
 case round=>
  clear HB1 HZ;obtain⟨i,rfl,hi,HB,HZ⟩:=hrel;by_cases hin:i<n
  ·obtain⟨x,hx⟩:∃ x,ws.getD i 0=x:=⟨_,rfl⟩;have hx8:x<256:=by rw [<- hx];exact aF HW.out i
   have r0:wr.cell? ⟨g,i,none⟩=some (.int .u8 (x:Int)):=by
    have:=aA.cell (Blk.below HU.out HB.out (Blk.lt HU.out)) i (by rw [HN.out];exact hin)
    rw [hx] at this;exact this
   obtain⟨old,hold⟩:∃ old,(bU ws i).getD i 0=old:=⟨_,rfl⟩;have r1:wr.cell? ⟨gi,i,none⟩=some (.int .i64 (old:Int)):=by
    have:=HZ.out.cell i (by rw [qN ws i (by rw [HN.out];exact hi),HN.out];exact hin)
    rw [hold] at this;exact this
   have r2:wr.frozen? ⟨gi,i,none⟩=false:=Blk.frozen HZ.out _;have ra:=qK x hx8;have HZ2:=Mw (show ag (wr.setCell ⟨gi,i,none⟩ (.int .i64 (x:Int))) gi (bU ws (i+1)) by
    have:=HZ.out.set i x;rw [<- hx,qO ws i (by rw [HN.out];exact hin),hx] at this
    exact this)
   have HB2:=Mw (show Below w.heap.size w (wr.setCell ⟨gi,i,none⟩ (.int .i64 (x:Int))) from Below.setc HB.out (by rw [HGI.out];exact Nat.le_refl _) _)
   clear hx hold
   go_wp2
   go_roundw
   case rel=>exact⟨i+1,by go_num,by omega,HB2,HZ2⟩
   case measure=>simp [intOf];omega
  have:n=i:=by omega
  subst this;have hZ:=HZ.out;rw [<- HN.out,oT] at hZ;have HZ2:=Mw hZ;have c0:wr.cell? ⟨d,0,none⟩=some (.pointer (some ⟨rs,0,none⟩)):=(HD1.out.below HB.out HD1.out.lt).cell 0;have kr:=Dm wr rs gf 8 285 0 gi (n-dn) ws gh pQR (by decide) (HD2.out.below HB.out HD2.out.lt) (HD3.out.below HB.out (Nat.le_refl _)) hZ HW.out (by intro h;have:=HN.out;rw [h] at this;simp at this;omega) (by rw [HN.out];omega) (by have:(2:Nat) ^ 8=256:=rfl;omega) (fun i hi=>HS.out i hi)
  rw [HN.out,show ((n-dn:Nat):Int)=(n:Int)-(dn:Int) by omega] at kr;clear hZ
  go_wp2_with (go_at_call 172;refine kr.mono ?_;rintro e w2 ⟨rfl,hb2⟩)
  clear kr c0;have HB3:=Mw (sv HB.out HB.out.size hb2);have HZ3:=Mw (show ag w2 gi ws from Blk.below HZ2.out hb2 (Blk.lt HZ2.out));have HU3:=Mw (show aA w2 g ws from Blk.below (Blk.below HU.out HB.out (Blk.lt HU.out)) hb2 (Blk.lt (Blk.below HU.out HB.out (Blk.lt HU.out))));clear hb2 HZ HZ2
  go_loopw [11] (fun vi wr=>∃ i:Nat,vi=.int .i64 (i:Int)/\i<=dn/\Aside0 (aA wr g ws)/\Aside0 (af w2 wr g)) (fun vi _=>(dn-intOf vi).toNat)
  case atStart=>exact⟨0,rfl,by omega,HU3,⟨af.refl _ _⟩⟩
  case round=>
   obtain⟨i,rfl,hi,HU4,HT⟩:=hrel;by_cases hid:i<dn;rotate_left
   ·have:dn=i:=by omega
    subst this
    go_wp2
    go_ret
    refine⟨rfl,HT.out.os.trans HB3.out.os,HT.out.tape.trans HB3.out.tape,HT.out.output.trans HB3.out.output,by rw [HT.out.size];exact HB3.out.size,fun k hk=>?_⟩
    by_cases hkg:k=g;rotate_left
    ·exact (HT.out.block k hkg).trans (HB3.out.block k hk)
    subst hkg;exact (show _=_ from HU4.out).trans (show _=_ from HU.out).symm
   obtain⟨x,hx⟩:∃ x,ws.getD i 0=x:=⟨_,rfl⟩;have hx8:x<256:=by rw [<- hx];exact aF HW.out i
   have hgne:gi≠g:=bd HZ3.out HU3.out (by decide);have r0:wr.cell? ⟨gi,i,none⟩=some (.int .i64 (x:Int)):=by
    have:=ag.cell (HT.out.blk HZ3.out hgne) i (by rw [HN.out];omega)
    rw [hx] at this;exact this
   have r1:wr.cell? ⟨g,i,none⟩=some (.int .u8 (x:Int)):=by
    have:=aA.cell HU4.out i (by rw [HN.out];omega)
    rw [hx] at this;exact this
   have r2:wr.frozen? ⟨g,i,none⟩=false:=Blk.frozen HU4.out _;have HU5:=Mw (show aA (wr.setCell ⟨g,i,none⟩ (.int .u8 (x:Int))) g ws by
    have:=HU4.out.set i x;rw [<- hx,Ek ws i (by rw [HN.out];omega),hx] at this
    exact this)
   have HT5:=Mw (HT.out.trans (af.set wr g i (.int .u8 (x:Int))));clear hx hgne
   go_wp2
   go_roundw
   case rel=>exact⟨i+1,by go_num,by omega,HU5,HT5⟩
   case measure=>simp [intOf];omega
def fa (c d i:Nat):Nat:=d*i+(i-c)
theorem qP (c d i:Nat):fa c d (i+1)=fa c d i+dl c d i:=by
 unfold fa dl;rw [Nat.mul_add,Nat.mul_one]
 split<;>omega
def js (c d c2 e:Nat)(ws:List Nat)(k:Nat):List Nat:=(List.range k).flatMap fun j=>(cB c d c2 e ws j).take (dl c d j)
theorem oU (c d c2 e:Nat)(ws:List Nat)(j:Nat):(cB c d c2 e ws j).length=dl c d j+e:=by simp [cB]
theorem yg (c d c2 e:Nat)(ws:List Nat)(k:Nat):js c d c2 e ws (k+1)=js c d c2 e ws k++(cB c d c2 e ws k).take (dl c d k):=by
 unfold js;rw [List.range_succ,List.flatMap_append];simp
theorem lO (c d c2 e:Nat)(ws:List Nat)(k:Nat):(js c d c2 e ws k).length=fa c d k:=by
 induction k with
 | zero=>simp [js,fa]
 | succ k ih=>
  rw [yg,List.length_append,ih,qP,List.length_take,oU];omega
theorem yh (c d i k:Nat)(h:i<=k):fa c d i<=fa c d k:=by
 unfold fa;have:=Nat.mul_le_mul_left d h;omega
theorem En (c d c2 e:Nat)(ws:List Nat)(j x:Nat)(hx:x<dl c d j):∀ k,j<k->(js c d c2 e ws k).getD (fa c d j+x) 0=(cB c d c2 e ws j).getD x 0:=by
 intro k
 induction k with
 | zero=>intro h;omega
 | succ k ih=>
  intro h;rw [yg];by_cases hjk:j=k
  ·subst hjk;rw [Mx,List.getElem?_append_right (by rw [lO];omega),lO,Nat.add_sub_cancel_left,List.getElem?_take,if_pos hx,<- Mx]
  have h1:=yh c d (j+1) k (by omega);rw [qP] at h1;rw [Mx,List.getElem?_append_left (by rw [lO];omega),<- Mx]
  exact ih (by omega)
theorem aB.upd2 {w w':World}{q gf p b:Nat}{cs cs2:Array Value}{xs:List Nat}(h:aB w q gf xs)(hu:bk w w' p b)(hp:Blk w p 144 cs)(hb:Blk w b 214 cs2):aB w' q gf xs:=by
 obtain⟨g,o,c,k1,k2,k3,k4⟩:=h;exact⟨g,o,c,hu.blk k1 (bd k1 hp (by decide)) (bd k1 hb (by decide)),k2,k3.move (hu.block g k3.lt (k3.ne hp (by decide)) (k3.ne hb (by decide))),k4⟩
theorem fP.upd2 {w w':World}{d rs gf p b:Nat}{cs cs2:Array Value}(h:fP w d rs gf)(hu:bk w w' p b)(hp:Blk w p 144 cs)(hb:Blk w b 214 cs2):fP w' d rs gf:=by
 obtain⟨h1,h2,ge,gl,zp,op,ls,k1,k2,k3,k4,k5,k6⟩:=h;have mv:∀ {q:Nat} {t:TypeId} {cs3:Array Value},Blk w q t cs3->t≠144->t≠214->Blk w' q t cs3:=fun hq n1 n2=>hu.blk hq (bd hq hp n1) (bd hq hb n2)
 exact⟨mv h1 (by decide) (by decide),mv h2 (by decide) (by decide),ge,gl,zp,op,ls,mv k1 (by decide) (by decide),mv k2 (by decide) (by decide),mv k3 (by decide) (by decide),k4,k5.upd2 hu hp hb,k6.upd2 hu hp hb⟩
structure tw (c d c2 e:Nat)(ws:List Nat):Prop where
 small:∀ j,j<c+c2->ab 8 (cB c d c2 e ws j)
 root:∀ j,j<c+c2->∀ i,i<e->ao 8 285 (gx 8 285 i) (cB c d c2 e ws j)=0
theorem bk.trans_below {x y z:World}{g b:Nat}(h:bk x y g b)(k:Below y.heap.size y z):bk x z g b:=h.trans (bk.of (aC.of_below k g) b)
end Go.Proofs.YtgccjgpdjkhpdaaGreat.B
