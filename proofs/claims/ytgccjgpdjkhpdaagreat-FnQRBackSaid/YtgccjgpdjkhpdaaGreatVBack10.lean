import Derived.Outline
import Derived.BigQuiet
import Derived.Test.YtgccjgpdjkhpdaaGreatVBack6
/-! Own texts of this claim, part 10. -/
namespace Go.Proofs.YtgccjgpdjkhpdaaGreat.B
set_option linter.unusedVariables false
set_option linter.unusedSimpArgs false
structure Fld (m p:Nat):Prop where
 one:1<=m
 lo:2 ^ m<=p
 hi:p<2 ^ (m+1)
section
variable {m p:Nat}
def gl (m p x:Nat):Nat:=(2*x) ^^^ (if x.testBit (m-1) then p else 0)
theorem lt_of_bits (x m:Nat)(h:∀ i,m<=i->x.testBit i=false):x<2 ^ m:=Nat.lt_pow_two_of_testBit x h
theorem bit_of_lt (x m i:Nat)(h:x<2 ^ m)(hi:m<=i):x.testBit i=false:=Nat.testBit_lt_two_pow (Nat.lt_of_lt_of_le h (Nat.pow_le_pow_right (by omega) hi))
theorem xor_lt (x y m:Nat)(hx:x<2 ^ m)(hy:y<2 ^ m):x ^^^ y<2 ^ m:=Nat.xor_lt_two_pow hx hy
theorem two_bit (x i:Nat):(2*x).testBit i=(decide (0<i) && x.testBit (i-1)):=by
 cases i with
 | zero=>simp
 | succ i=>simp [Nat.testBit_succ]
theorem two_xor (x y:Nat):2*(x ^^^ y)=(2*x) ^^^ (2*y):=by
 apply Nat.eq_of_testBit_eq
 intro i
 simp only [Nat.testBit_xor,two_bit]
 cases decide (0<i)<;>simp
theorem xor_left (a b c:Nat):a ^^^ (b ^^^ c)=b ^^^ (a ^^^ c):=by rw [<- Nat.xor_assoc,Nat.xor_comm a b,Nat.xor_assoc]
theorem xor_mid (a b c d:Nat):(a ^^^ b) ^^^ (c ^^^ d)=(a ^^^ c) ^^^ (b ^^^ d):=by
 rw [Nat.xor_assoc,Nat.xor_assoc,xor_left b c d]
theorem gl_add (x y:Nat):gl m p (x ^^^ y)=gl m p x ^^^ gl m p y:=by
 unfold gl
 rw [two_xor,Nat.testBit_xor]
 have hp:∀ a b:Bool,(if (a ^^ b)=true then p else 0)=(if a=true then p else 0) ^^^ (if b=true then p else 0):=by
  intro a b
  cases a<;>cases b<;>simp
 rw [hp,xor_mid]
theorem gl_zero:gl m p 0=0:=by unfold gl;simp
theorem top_bit (F:Fld m p)(i:Nat)(hi:m<=i):p.testBit i=decide (i=m):=by
 by_cases h:i=m
 ·subst h
  rw [decide_eq_true rfl]
  have h1:p=2 ^ i+(p-2 ^ i):=by have:=F.lo;omega
  have h2:p-2 ^ i<2 ^ i:=by have:=F.hi;rw [Nat.pow_succ] at this;omega
  rw [h1,Nat.testBit_two_pow_add_eq,Nat.testBit_lt_two_pow h2];rfl
 ·rw [decide_eq_false h]
  exact bit_of_lt p (m+1) i F.hi (by omega)
theorem gl_lt (F:Fld m p)(x:Nat)(hx:x<2 ^ m):gl m p x<2 ^ m:=by
 apply lt_of_bits
 intro i hi
 have h1:=F.one
 unfold gl
 rw [Nat.testBit_xor,two_bit]
 by_cases hm:i=m
 ·subst hm
  rw [decide_eq_true (by omega),Bool.true_and]
  by_cases hb:x.testBit (i-1)=true
  ·rw [if_pos hb,hb,top_bit F i (Nat.le_refl _)];simp
  ·rw [if_neg hb];simp at hb;simp [hb]
 ·rw [bit_of_lt x m (i-1) hx (by omega)]
  by_cases hb:x.testBit (m-1)=true
  ·rw [if_pos hb,top_bit F i hi];simp [hm]
  ·rw [if_neg hb];simp
def glN (m p:Nat):Nat->Nat->Nat
 | 0,x=>x
 | k+1,x=>gl m p (glN m p k x)
theorem glN_add (k x y:Nat):glN m p k (x ^^^ y)=glN m p k x ^^^ glN m p k y:=by
 induction k with
 | zero=>rfl
 | succ k ih=>rw [glN,ih,gl_add];rfl
theorem glN_zero (k:Nat):glN m p k 0=0:=by
 induction k with
 | zero=>rfl
 | succ k ih=>rw [glN,ih,gl_zero]
theorem glN_lt (F:Fld m p)(k x:Nat)(hx:x<2 ^ m):glN m p k x<2 ^ m:=by
 induction k with
 | zero=>exact hx
 | succ k ih=>exact gl_lt F _ ih
theorem glN_glN (j k x:Nat):glN m p j (glN m p k x)=glN m p (j+k) x:=by
 induction j with
 | zero=>rw [Nat.zero_add];rfl
 | succ j ih=>rw [Nat.succ_add,glN,glN,ih]
theorem glN_gl (k x:Nat):glN m p k (gl m p x)=gl m p (glN m p k x):=by
 have:=glN_glN (m:=m) (p:=p) k 1 x
 exact this
theorem glN_pow (i:Nat)(hi:i<m):glN m p i 1=2 ^ i:=by
 induction i with
 | zero=>rfl
 | succ i ih=>
  rw [glN,ih (by omega),gl,Nat.testBit_two_pow_of_ne (by omega),if_neg (by simp),Nat.xor_zero,Nat.pow_succ,Nat.mul_comm]
def gm' (m p:Nat):Nat->Nat->Nat->Nat
 | 0,_,_=>0
 | k+1,a,b=>gm' m p k a b ^^^ (if b.testBit k then glN m p k a else 0)
def gm (m p a b:Nat):Nat:=gm' m p m a b
theorem gm'_left (k a a' b:Nat):gm' m p k (a ^^^ a') b=gm' m p k a b ^^^ gm' m p k a' b:=by
 induction k with
 | zero=>simp [gm']
 | succ k ih=>
  rw [gm',gm',gm',ih,xor_mid]
  congr 1
  by_cases h:b.testBit k=true
  ·rw [if_pos h,if_pos h,if_pos h,glN_add]
  ·rw [if_neg h,if_neg h,if_neg h];simp
theorem gm'_right (k a b b':Nat):gm' m p k a (b ^^^ b')=gm' m p k a b ^^^ gm' m p k a b':=by
 induction k with
 | zero=>simp [gm']
 | succ k ih=>
  rw [gm',gm',gm',ih,xor_mid,Nat.testBit_xor]
  congr 1
  cases b.testBit k<;>cases b'.testBit k<;>simp
theorem gm_left (a a' b:Nat):gm m p (a ^^^ a') b=gm m p a b ^^^ gm m p a' b:=gm'_left m a a' b
theorem gm_right (a b b':Nat):gm m p a (b ^^^ b')=gm m p a b ^^^ gm m p a b':=gm'_right m a b b'
theorem gm'_lt (F:Fld m p)(k a b:Nat)(ha:a<2 ^ m):gm' m p k a b<2 ^ m:=by
 induction k with
 | zero=>exact Nat.two_pow_pos m
 | succ k ih=>
  rw [gm']
  refine xor_lt _ _ _ ih ?_
  split
  ·exact glN_lt F k a ha
  ·exact Nat.two_pow_pos m
theorem gm_lt (F:Fld m p)(a b:Nat)(ha:a<2 ^ m):gm m p a b<2 ^ m:=gm'_lt F m a b ha
theorem gm'_zero_right (k a:Nat):gm' m p k a 0=0:=by
 induction k with
 | zero=>rfl
 | succ k ih=>rw [gm',ih];simp
theorem gm_zero_right (a:Nat):gm m p a 0=0:=gm'_zero_right m a
theorem gm'_zero_left (k b:Nat):gm' m p k 0 b=0:=by
 induction k with
 | zero=>rfl
 | succ k ih=>rw [gm',ih,glN_zero];simp
theorem gm_zero_left (b:Nat):gm m p 0 b=0:=gm'_zero_left m b
theorem gm'_pow (k a i:Nat):gm' m p k a (2 ^ i)=if i<k then glN m p i a else 0:=by
 induction k with
 | zero=>rfl
 | succ k ih=>
  rw [gm',ih]
  by_cases h:i=k
  ·subst h
   rw [if_neg (by omega),Nat.testBit_two_pow_self,if_pos rfl,if_pos (by omega),Nat.zero_xor]
  ·rw [Nat.testBit_two_pow_of_ne h]
   simp only [Bool.false_eq_true,if_false,Nat.xor_zero]
   by_cases h2:i<k
   ·rw [if_pos h2,if_pos (by omega)]
   ·rw [if_neg h2,if_neg (by omega)]
theorem gm_pow (a i:Nat)(hi:i<m):gm m p a (2 ^ i)=glN m p i a:=by unfold gm;rw [gm'_pow,if_pos hi]
theorem gm_one (F:Fld m p)(a:Nat):gm m p a 1=a:=by have:=gm_pow (p:=p) a 0 (m:=m) F.one;exact this
theorem lin_ext (f g:Nat->Nat)(hf:∀ x y,f (x ^^^ y)=f x ^^^ f y)(hg:∀ x y,g (x ^^^ y)=g x ^^^ g y)(h0:f 0=g 0)(m:Nat)(hp:∀ i,i<m->f (2 ^ i)=g (2 ^ i)):∀ x,x<2 ^ m->f x=g x:=by
 induction m with
 | zero=>intro x hx;have:x=0:=by have:(2:Nat) ^ 0=1:=rfl;omega
         rw [this,h0]
 | succ m ih=>
  intro x hx
  by_cases h:x<2 ^ m
  ·exact ih (fun i hi=>hp i (by omega)) x h
  ·have hx2:x=2 ^ m ^^^ (x ^^^ 2 ^ m):=by rw [Nat.xor_comm x,<- Nat.xor_assoc,Nat.xor_self,Nat.zero_xor]
   have hlow:x ^^^ 2 ^ m<2 ^ m:=by
    apply lt_of_bits
    intro i hi
    rw [Nat.testBit_xor]
    by_cases he:i=m
    ·subst he
     have h1:x=2 ^ i+(x-2 ^ i):=by omega
     have h2:x-2 ^ i<2 ^ i:=by rw [Nat.pow_succ] at hx;omega
     rw [h1,Nat.testBit_two_pow_add_eq,Nat.testBit_lt_two_pow h2,Nat.testBit_two_pow_self];rfl
    ·rw [bit_of_lt x (m+1) i hx (by omega),Nat.testBit_two_pow_of_ne (by omega)];rfl
   rw [hx2,hf,hg,hp m (by omega),ih (fun i hi=>hp i (by omega)) _ hlow]
theorem gm_comm (F:Fld m p)(a b:Nat)(ha:a<2 ^ m)(hb:b<2 ^ m):gm m p a b=gm m p b a:=by
 refine lin_ext (fun x=>gm m p x b) (fun x=>gm m p b x) (fun x y=>gm_left x y b) (fun x y=>gm_right b x y) ?_ m (fun j hj=>?_) a ha
 ·show gm m p 0 b=gm m p b 0
  rw [gm_zero_left,gm_zero_right]
 ·show gm m p (2 ^ j) b=gm m p b (2 ^ j)
  refine lin_ext (fun x=>gm m p (2 ^ j) x) (fun x=>gm m p x (2 ^ j)) (fun x y=>gm_right _ x y) (fun x y=>gm_left x y _) ?_ m (fun i hi=>?_) b hb
  ·show gm m p (2 ^ j) 0=gm m p 0 (2 ^ j)
   rw [gm_zero_left,gm_zero_right]
  ·show gm m p (2 ^ j) (2 ^ i)=gm m p (2 ^ i) (2 ^ j)
   rw [gm_pow _ i hi,gm_pow _ j hj,<- glN_pow (p:=p) j hj,<- glN_pow (p:=p) i hi,glN_glN,glN_glN,Nat.add_comm]
theorem gm'_gl (k a b:Nat):gm' m p k (gl m p a) b=gl m p (gm' m p k a b):=by
 induction k with
 | zero=>rw [gm',gm',gl_zero]
 | succ k ih=>
  rw [gm',gm',ih,gl_add]
  congr 1
  by_cases h:b.testBit k=true
  ·rw [if_pos h,if_pos h,glN_gl]
  ·rw [if_neg h,if_neg h,gl_zero]
theorem gm_gl (a b:Nat):gm m p (gl m p a) b=gl m p (gm m p a b):=gm'_gl m a b
theorem gm_glN (k a b:Nat):gm m p (glN m p k a) b=glN m p k (gm m p a b):=by
 induction k with
 | zero=>rfl
 | succ k ih=>rw [glN,gm_gl,ih];rfl
theorem gm_assoc (F:Fld m p)(a b c:Nat)(ha:a<2 ^ m)(hb:b<2 ^ m)(hc:c<2 ^ m):gm m p (gm m p a b) c=gm m p a (gm m p b c):=by
 refine lin_ext (fun x=>gm m p (gm m p a b) x) (fun x=>gm m p a (gm m p b x)) (fun x y=>gm_right _ x y) (fun x y=>?_) ?_ m (fun k hk=>?_) c hc
 ·show gm m p a (gm m p b (x ^^^ y))=_
  rw [gm_right,gm_right]
 ·show gm m p (gm m p a b) 0=gm m p a (gm m p b 0)
  rw [gm_zero_right,gm_zero_right,gm_zero_right]
 ·show gm m p (gm m p a b) (2 ^ k)=gm m p a (gm m p b (2 ^ k))
  rw [gm_pow _ k hk,gm_pow _ k hk,gm_comm F a _ ha (glN_lt F k b hb),gm_glN,gm_comm F b a hb ha]
end
end Go.Proofs.YtgccjgpdjkhpdaaGreat.B
namespace Go.Proofs.YtgccjgpdjkhpdaaGreat.B
set_option linter.unusedVariables false
set_option linter.unusedSimpArgs false
section
variable {m p:Nat}
def AllLt (m:Nat)(l:List Nat):Prop:=∀ x∈l,x<2 ^ m
def pevF (m p r:Nat):Nat->List Nat->Nat
 | a,[]=>a
 | a,c :: l=>pevF m p r (gm m p a r ^^^ c) l
def pev (m p r:Nat)(l:List Nat):Nat:=pevF m p r 0 l
def gpow (m p r:Nat):Nat->Nat
 | 0=>1
 | n+1=>gm m p (gpow m p r n) r
theorem gpow_lt (F:Fld m p)(r n:Nat)(hr:r<2 ^ m):gpow m p r n<2 ^ m:=by
 induction n with
 | zero=>exact Nat.lt_of_lt_of_le (show 1<2 ^ 1 by decide) (Nat.pow_le_pow_right (by omega) F.one)
 | succ n ih=>exact gm_lt F _ _ ih
theorem pevF_eq (F:Fld m p)(r:Nat)(hr:r<2 ^ m)(l:List Nat):∀ a,a<2 ^ m->AllLt m l->pevF m p r a l=gm m p a (gpow m p r l.length) ^^^ pev m p r l:=by
 induction l with
 | nil=>intro a ha _;show a=gm m p a 1 ^^^ 0;rw [gm_one F,Nat.xor_zero]
 | cons c l ih=>
  intro a ha hl
  have hc:c<2 ^ m:=hl c (by simp)
  have hl2:AllLt m l:=fun x hx=>hl x (by simp [hx])
  have hg:=gpow_lt F r l.length hr
  unfold pev
  rw [pevF,pevF,ih _ (xor_lt _ _ _ (gm_lt F a r ha) hc) hl2,gm_zero_left,Nat.zero_xor,ih c hc hl2,gm_left,Nat.xor_assoc,List.length_cons,gpow,gm_comm F (gpow m p r l.length) r hg hr,<- gm_assoc F a r _ ha hr hg]
theorem pev_append (F:Fld m p)(r:Nat)(hr:r<2 ^ m)(l k:List Nat)(hl:AllLt m l)(hk:AllLt m k):pev m p r (l++k)=gm m p (pev m p r l) (gpow m p r k.length) ^^^ pev m p r k:=by
 have h:∀ (l:List Nat) a,pevF m p r a (l++k)=pevF m p r (pevF m p r a l) k:=by
  intro l
  induction l with
  | nil=>intro a;rfl
  | cons c l ih=>intro a;exact ih _
 have hlt:∀ (l:List Nat) a,a<2 ^ m->AllLt m l->pevF m p r a l<2 ^ m:=by
  intro l
  induction l with
  | nil=>intro a ha _;exact ha
  | cons c l ih=>intro a ha hl;exact ih _ (xor_lt _ _ _ (gm_lt F a r ha) (hl c (by simp))) (fun x hx=>hl x (by simp [hx]))
 unfold pev
 rw [h l 0,pevF_eq F r hr k _ (hlt l 0 (Nat.two_pow_pos m) hl) hk]
 rfl
theorem pev_lt (F:Fld m p)(r:Nat)(l:List Nat)(hl:AllLt m l):pev m p r l<2 ^ m:=by
 have hlt:∀ (l:List Nat) a,a<2 ^ m->AllLt m l->pevF m p r a l<2 ^ m:=by
  intro l
  induction l with
  | nil=>intro a ha _;exact ha
  | cons c l ih=>intro a ha hl;exact ih _ (xor_lt _ _ _ (gm_lt F a r ha) (hl c (by simp))) (fun x hx=>hl x (by simp [hx]))
 exact hlt l 0 (Nat.two_pow_pos m) hl
theorem pev_cons (F:Fld m p)(r:Nat)(hr:r<2 ^ m)(c:Nat)(l:List Nat)(hc:c<2 ^ m)(hl:AllLt m l):pev m p r (c :: l)=gm m p c (gpow m p r l.length) ^^^ pev m p r l:=by
 unfold pev
 rw [pevF,gm_zero_left,Nat.zero_xor]
 exact pevF_eq F r hr l c hc hl
theorem pev_one (r c:Nat):pev m p r [c]=c:=by unfold pev;rw [pevF,pevF,gm_zero_left,Nat.zero_xor]
theorem pev_snoc (F:Fld m p)(r:Nat)(hr:r<2 ^ m)(l:List Nat)(c:Nat)(hl:AllLt m l)(hc:c<2 ^ m):pev m p r (l++[c])=gm m p (pev m p r l) r ^^^ c:=by
 rw [pev_append F r hr l [c] hl (by intro x hx;rw [List.mem_singleton.1 hx];exact hc),pev_one]
 congr 1
 show gm m p _ (gm m p 1 r)=_
 rw [gm_comm F 1 r (gpow_lt F r 0 hr) hr,gm_one F]
theorem pev_xor (F:Fld m p)(r:Nat)(hr:r<2 ^ m):∀ (l k:List Nat),l.length=k.length->AllLt m l->AllLt m k->pev m p r (List.zipWith (· ^^^ ·) l k)=pev m p r l ^^^ pev m p r k:=by
 intro l
 induction l with
 | nil=>intro k h _ _;have:k=[]:=List.eq_nil_of_length_eq_zero h.symm;subst this;simp [pev,pevF]
 | cons a l ih=>
  intro k h hl hk
  cases k with
  | nil=>simp at h
  | cons b k=>
   have ha:a<2 ^ m:=hl a (by simp)
   have hb:b<2 ^ m:=hk b (by simp)
   have hl2:AllLt m l:=fun x hx=>hl x (by simp [hx])
   have hk2:AllLt m k:=fun x hx=>hk x (by simp [hx])
   have h2:l.length=k.length:=by simpa using h
   have hz:AllLt m (List.zipWith (· ^^^ ·) l k):=by
    intro x hx
    obtain⟨i,hi,rfl⟩:=List.mem_iff_getElem.1 hx
    rw [List.getElem_zipWith]
    exact xor_lt _ _ _ (hl2 _ (List.getElem_mem _)) (hk2 _ (List.getElem_mem _))
   rw [List.zipWith_cons_cons,pev_cons F r hr _ _ (xor_lt _ _ _ ha hb) hz,pev_cons F r hr a l ha hl2,pev_cons F r hr b k hb hk2,ih k h2 hl2 hk2,gm_left,List.length_zipWith,<- h2,Nat.min_self,xor_mid]
theorem pev_times (F:Fld m p)(r f:Nat)(hr:r<2 ^ m)(hf:f<2 ^ m):∀ (l:List Nat),AllLt m l->pev m p r (l.map fun x=>gm m p x f)=gm m p (pev m p r l) f:=by
 intro l
 induction l with
 | nil=>intro _;show 0=gm m p 0 f;rw [gm_zero_left]
 | cons a l ih=>
  intro hl
  have ha:a<2 ^ m:=hl a (by simp)
  have hl2:AllLt m l:=fun x hx=>hl x (by simp [hx])
  have hm:AllLt m (l.map fun x=>gm m p x f):=by
   intro x hx
   obtain⟨y,hy,rfl⟩:=List.mem_map.1 hx
   exact gm_lt F y f (hl2 y hy)
  have hg:=gpow_lt F r l.length hr
  rw [List.map_cons,pev_cons F r hr _ _ (gm_lt F a f ha) hm,pev_cons F r hr a l ha hl2,ih hl2,List.length_map,gm_left]
  congr 1
  rw [gm_assoc F a f _ ha hf hg,gm_comm F f _ hf hg,<- gm_assoc F a _ f ha hg hf]
def rstep (m p:Nat)(g s:List Nat)(b:Nat):List Nat:=List.zipWith (· ^^^ ·) (s.tail++[0]) (g.map fun x=>gm m p x (b ^^^ s.headD 0))
theorem rstep_len (g s:List Nat)(b:Nat)(h:s.length=g.length)(h0:0<g.length):(rstep m p g s b).length=g.length:=by
 unfold rstep
 rw [List.length_zipWith,List.length_append,List.length_tail,List.length_map]
 simp;omega
theorem rstep_lt (F:Fld m p)(g s:List Nat)(b:Nat)(hg:AllLt m g)(hs:AllLt m s):AllLt m (rstep m p g s b):=by
 intro x hx
 unfold rstep at hx
 obtain⟨i,hi,rfl⟩:=List.mem_iff_getElem.1 hx
 rw [List.getElem_zipWith]
 refine xor_lt _ _ _ ?_ ?_
 ·have:=List.getElem_mem (l:=s.tail++[0]) (n:=i) (by rw [List.length_zipWith] at hi;omega)
  rcases List.mem_append.1 this with h | h
  ·exact hs _ (List.mem_of_mem_tail h)
  ·rw [List.mem_singleton.1 h];exact Nat.two_pow_pos m
 ·rw [List.getElem_map]
  exact gm_lt F _ _ (hg _ (List.getElem_mem _))
theorem rstep_pev (F:Fld m p)(r:Nat)(hr:r<2 ^ m)(g s:List Nat)(b:Nat)(hb:b<2 ^ m)(hg:AllLt m g)(hs:AllLt m s)(h:s.length=g.length)(h0:0<g.length)(hroot:pev m p r g=gpow m p r g.length) :
  pev m p r (rstep m p g s b)=gm m p (pev m p r s) r ^^^ gm m p b (gpow m p r g.length):=by
 cases s with
 | nil=>simp at h;omega
 | cons a t=>
  have ha:a<2 ^ m:=hs a (by simp)
  have ht:AllLt m t:=fun x hx=>hs x (by simp [hx])
  have hf:b ^^^ a<2 ^ m:=xor_lt _ _ _ hb ha
  have hgr:=gpow_lt F r g.length hr
  have ht0:AllLt m (t++[0]):=by
   intro x hx
   rcases List.mem_append.1 hx with h | h
   ·exact ht x h
   ·rw [List.mem_singleton.1 h];exact Nat.two_pow_pos m
  have hgm:AllLt m (g.map fun x=>gm m p x (b ^^^ a)):=by
   intro x hx
   obtain⟨y,hy,rfl⟩:=List.mem_map.1 hx
   exact gm_lt F y _ (hg y hy)
  have htl:t.length+1=g.length:=by simpa using h
  have hgt:=gpow_lt F r t.length hr
  have hpt:=pev_lt F r t ht
  show pev m p r (List.zipWith (· ^^^ ·) (t++[0]) (g.map fun x=>gm m p x (b ^^^ a)))=_
  rw [pev_xor F r hr _ _ (by rw [List.length_append,List.length_map];simpa using htl) ht0 hgm,pev_snoc F r hr t 0 ht (Nat.two_pow_pos m),Nat.xor_zero,pev_times F r _ hr hf g hg,hroot,pev_cons F r hr a t ha ht,gm_left]
  rw [gm_assoc F a _ r ha hgt hr]
  have e:gm m p (gpow m p r t.length) r=gpow m p r g.length:=by rw [<- htl];rfl
  rw [e,gm_comm F _ _ hgr hf,gm_left]
  rw [Nat.xor_comm (gm m p a _) (gm m p (pev m p r t) r),Nat.xor_assoc,Nat.xor_comm (gm m p b _) (gm m p a _)]
def rest (m p:Nat)(g:List Nat):List Nat->List Nat->List Nat
 | s,[]=>s
 | s,b :: l=>rest m p g (rstep m p g s b) l
theorem rest_facts (F:Fld m p)(r:Nat)(hr:r<2 ^ m)(g:List Nat)(hg:AllLt m g)(h0:0<g.length)(hroot:pev m p r g=gpow m p r g.length) :
  ∀ (l s pre:List Nat),AllLt m l->AllLt m s->AllLt m pre->s.length=g.length->pev m p r s=gm m p (pev m p r pre) (gpow m p r g.length)->
   pev m p r (rest m p g s l)=gm m p (pev m p r (pre++l)) (gpow m p r g.length)/\(rest m p g s l).length=g.length/\AllLt m (rest m p g s l):=by
 have hgr:=gpow_lt F r g.length hr
 intro l
 induction l with
 | nil=>intro s pre _ hs _ hl he;rw [List.append_nil];exact⟨he,hl,hs⟩
 | cons b l ih=>
  intro s pre hbl hs hp hl he
  have hb:b<2 ^ m:=hbl b (by simp)
  have hpp:=pev_lt F r pre hp
  have hpb:AllLt m (pre++[b]):=by
   intro x hx
   rcases List.mem_append.1 hx with h | h
   ·exact hp x h
   ·rw [List.mem_singleton.1 h];exact hb
  have:=ih (rstep m p g s b) (pre++[b]) (fun x hx=>hbl x (by simp [hx])) (rstep_lt F g s b hg hs) hpb (rstep_len g s b hl h0) (by
   rw [rstep_pev F r hr g s b hb hg hs hl h0 hroot,he,pev_snoc F r hr pre b hp hb,gm_left]
   congr 1
   rw [gm_assoc F _ _ r hpp hgr hr,gm_comm F _ r hgr hr,<- gm_assoc F _ r _ hpp hr hgr])
  rw [List.append_assoc] at this
  exact this
theorem code_root (F:Fld m p)(r:Nat)(hr:r<2 ^ m)(g data:List Nat)(hg:AllLt m g)(h0:0<g.length)(hd:AllLt m data)(hroot:pev m p r g=gpow m p r g.length) :
  pev m p r (data++rest m p g (List.replicate g.length 0) data)=0:=by
 have hz:AllLt m (List.replicate g.length 0):=by intro x hx;rw [List.eq_of_mem_replicate hx];exact Nat.two_pow_pos m
 have hz0:∀ n,pev m p r (List.replicate n 0)=0:=by
  intro n
  unfold pev
  induction n with
  | zero=>rfl
  | succ n ih=>rw [List.replicate_succ,pevF,gm_zero_left,Nat.xor_zero];exact ih
 obtain⟨h1,h2,h3⟩:=rest_facts F r hr g hg h0 hroot data (List.replicate g.length 0) [] hd hz (by intro x hx;cases hx) (by simp) (by rw [hz0];show 0=gm m p 0 _;rw [gm_zero_left])
 rw [pev_append F r hr data _ hd h3,h1,h2,List.nil_append,Nat.xor_self]
def gstep (m p:Nat)(s:List Nat)(root:Nat):List Nat:=List.zipWith (· ^^^ ·) (s.map fun x=>gm m p x root) (s.tail++[0])
theorem gstep_lt (F:Fld m p)(s:List Nat)(root:Nat)(hs:AllLt m s):AllLt m (gstep m p s root):=by
 intro x hx
 unfold gstep at hx
 obtain⟨i,hi,rfl⟩:=List.mem_iff_getElem.1 hx
 rw [List.getElem_zipWith]
 refine xor_lt _ _ _ ?_ ?_
 ·rw [List.getElem_map]
  exact gm_lt F _ _ (hs _ (List.getElem_mem _))
 ·have:=List.getElem_mem (l:=s.tail++[0]) (n:=i) (by rw [List.length_zipWith] at hi;omega)
  rcases List.mem_append.1 this with h | h
  ·exact hs _ (List.mem_of_mem_tail h)
  ·rw [List.mem_singleton.1 h];exact Nat.two_pow_pos m
theorem gstep_len (s:List Nat)(root:Nat)(h0:0<s.length):(gstep m p s root).length=s.length:=by
 unfold gstep
 rw [List.length_zipWith,List.length_append,List.length_tail,List.length_map]
 simp;omega
theorem gstep_pev (F:Fld m p)(x root a:Nat)(t:List Nat)(hx:x<2 ^ m)(hroot:root<2 ^ m)(ha:a<2 ^ m)(ht:AllLt m t) :
  pev m p x (gstep m p (a :: t) root)=gm m p (pev m p x (a :: t)) (x ^^^ root) ^^^ gm m p a (gpow m p x (t.length+1)):=by
 have hs:AllLt m (a :: t):=by
  intro y hy
  rcases List.mem_cons.1 hy with h | h
  ·rw [h];exact ha
  ·exact ht y h
 have ht0:AllLt m (t++[0]):=by
  intro y hy
  rcases List.mem_append.1 hy with h | h
  ·exact ht y h
  ·rw [List.mem_singleton.1 h];exact Nat.two_pow_pos m
 have hsm:AllLt m ((a :: t).map fun y=>gm m p y root):=by
  intro y hy
  obtain⟨z,hz,rfl⟩:=List.mem_map.1 hy
  exact gm_lt F z _ (hs z hz)
 have hg:=gpow_lt F x t.length hx
 have hpt:=pev_lt F x t ht
 show pev m p x (List.zipWith (· ^^^ ·) ((a :: t).map fun y=>gm m p y root) (t++[0]))=_
 rw [pev_xor F x hx _ _ (by simp) hsm ht0,pev_times F x root hx hroot _ hs,pev_snoc F x hx t 0 ht (Nat.two_pow_pos m),Nat.xor_zero,gm_right,pev_cons F x hx a t ha ht]
 have e:gm m p (gm m p a (gpow m p x t.length)) x=gm m p a (gm m p (gpow m p x t.length) x):=gm_assoc F a _ x ha hg hx
 rw [show gpow m p x (t.length+1)=gm m p (gpow m p x t.length) x from rfl,gm_left (gm m p a (gpow m p x t.length)) (pev m p x t) root,gm_left (gm m p a (gpow m p x t.length)) (pev m p x t) x,e]
 generalize gm m p a (gm m p (gpow m p x t.length) x)=A
 generalize gm m p (pev m p x t) x=B
 generalize gm m p (gm m p a (gpow m p x t.length)) root ^^^ gm m p (pev m p x t) root=C
 rw [Nat.xor_comm (A ^^^ B) C,Nat.xor_assoc C,Nat.xor_comm (A ^^^ B) A,<- Nat.xor_assoc A A B,Nat.xor_self,Nat.zero_xor]
def gens (m p:Nat):List Nat->List Nat->List Nat
 | s,[]=>s
 | s,r :: l=>gens m p (gstep m p s r) l
theorem gens_lt (F:Fld m p):∀ (rs s:List Nat),AllLt m s->AllLt m (gens m p s rs):=by
 intro rs
 induction rs with
 | nil=>intro s hs;exact hs
 | cons r l ih=>intro s hs;exact ih _ (gstep_lt F s r hs)
theorem gens_len:∀ (rs s:List Nat),0<s.length->(gens m p s rs).length=s.length:=by
 intro rs
 induction rs with
 | nil=>intro s _;rfl
 | cons r l ih=>intro s hs;rw [gens,ih _ (by rw [gstep_len s r hs];exact hs),gstep_len s r hs]
theorem gstep_lead (k:Nat)(u:List Nat)(root:Nat):∃ u',gstep m p (List.replicate (k+1) 0++1 :: u) root=List.replicate k 0++1 :: u'/\u'.length=u.length+1:=by
 induction k with
 | zero=>
  refine⟨List.zipWith (· ^^^ ·) ((1 :: u).map fun x=>gm m p x root) (u++[0]),?_,by simp⟩
  unfold gstep
  simp only [List.replicate_succ,List.replicate_zero,List.nil_append,List.cons_append,List.map_cons,List.tail_cons,List.zipWith_cons_cons,gm_zero_left,Nat.zero_xor]
 | succ k ih=>
  obtain⟨u',h,hl⟩:=ih
  refine⟨u',?_,hl⟩
  have e:gstep m p (List.replicate (k+1+1) 0++1 :: u) root=0 :: gstep m p (List.replicate (k+1) 0++1 :: u) root:=by
   unfold gstep
   simp only [List.replicate_succ,List.cons_append,List.map_cons,List.tail_cons,List.zipWith_cons_cons,gm_zero_left,Nat.zero_xor]
  rw [e,h]
  rfl
def facs (m p x:Nat):Nat->List Nat->Nat
 | a,[]=>a
 | a,r :: l=>facs m p x (gm m p a (x ^^^ r)) l
theorem facs_zero (x:Nat):∀ (rs:List Nat),facs m p x 0 rs=0:=by
 intro rs
 induction rs with
 | nil=>rfl
 | cons r l ih=>rw [facs,gm_zero_left];exact ih
theorem facs_root (x:Nat):∀ (rs:List Nat) (a:Nat),x∈rs->facs m p x a rs=0:=by
 intro rs
 induction rs with
 | nil=>intro a h;cases h
 | cons r l ih=>
  intro a h
  rcases List.mem_cons.1 h with h | h
  ·subst h;rw [facs,Nat.xor_self,gm_zero_right,facs_zero]
  ·rw [facs];exact ih _ h
theorem gens_pev (F:Fld m p)(x:Nat)(hx:x<2 ^ m):∀ (rs:List Nat) (k:Nat) (u:List Nat),AllLt m rs->AllLt m u->rs.length=k->
  pev m p x (gens m p (List.replicate k 0++1 :: u) rs)=facs m p x (pev m p x (List.replicate k 0++1 :: u)) rs/\∃ u',gens m p (List.replicate k 0++1 :: u) rs=1 :: u'/\AllLt m u'/\u'.length=u.length+k:=by
 have h1:1<2 ^ m:=Nat.lt_of_lt_of_le (show 1<2 ^ 1 by decide) (Nat.pow_le_pow_right (by omega) F.one)
 intro rs
 induction rs with
 | nil=>intro k u _ hu hk;have:k=0:=hk.symm;subst this;exact⟨rfl,u,rfl,hu,rfl⟩
 | cons r l ih=>
  intro k u hr hu hk
  obtain⟨k,rfl⟩:∃ j,k=j+1:=⟨k-1,by simp at hk;omega⟩
  have hs:AllLt m (List.replicate (k+1) 0++1 :: u):=by
   intro y hy
   rcases List.mem_append.1 hy with h | h
   ·rw [List.eq_of_mem_replicate h];exact Nat.two_pow_pos m
   ·rcases List.mem_cons.1 h with h | h
    ·rw [h];exact h1
    ·exact hu y h
  have ht:AllLt m (List.replicate k 0++1 :: u):=fun y hy=>hs y (by rw [List.replicate_succ,List.cons_append];exact List.mem_cons_of_mem _ hy)
  obtain⟨u',he,hl⟩:=gstep_lead (m:=m) (p:=p) k u r
  have hlt:=gstep_lt F _ r hs
  rw [he] at hlt
  have hu':AllLt m u':=fun y hy=>hlt y (List.mem_append_right _ (List.mem_cons_of_mem _ hy))
  obtain⟨h2,v,h3,h4,h5⟩:=ih k u' (fun y hy=>hr y (by simp [hy])) hu' (by simpa using hk)
  have hp:pev m p x (List.replicate k 0++1 :: u')=gm m p (pev m p x (List.replicate (k+1) 0++1 :: u)) (x ^^^ r):=by
   rw [<- he]
   have:=gstep_pev F x r 0 (List.replicate k 0++1 :: u) hx (hr r (by simp)) (Nat.two_pow_pos m) ht
   rw [gm_zero_left,Nat.xor_zero] at this
   exact this
  refine⟨?_,v,?_,h4,by omega⟩
  ·rw [gens,he,h2,hp];rfl
  ·rw [gens,he,h3]
theorem gens_root (F:Fld m p)(rs:List Nat)(r x:Nat)(hrs:AllLt m rs)(hr:r<2 ^ m)(hx:x<2 ^ m)(hmem:x∈rs\/x=r) :
  pev m p x (gens m p (List.replicate rs.length 0++[1]) (rs++[r]))=gpow m p x (rs.length+1)/\AllLt m (gens m p (List.replicate rs.length 0++[1]) (rs++[r]))/\(gens m p (List.replicate rs.length 0++[1]) (rs++[r])).length=rs.length+1:=by
 have h1:1<2 ^ m:=Nat.lt_of_lt_of_le (show 1<2 ^ 1 by decide) (Nat.pow_le_pow_right (by omega) F.one)
 obtain⟨h2,u,h3,h4,h5⟩:=gens_pev F x hx rs rs.length [] hrs (by intro y hy;cases hy) rfl
 have happ:∀ (l s:List Nat),gens m p s (l++[r])=gstep m p (gens m p s l) r:=by
  intro l
  induction l with
  | nil=>intro s;rfl
  | cons a l ih=>intro s;exact ih _
 have hul:u.length=rs.length:=by simpa using h5
 rw [happ,h3]
 have hu1:AllLt m (1 :: u):=by
  intro y hy
  rcases List.mem_cons.1 hy with h | h
  ·rw [h];exact h1
  ·exact h4 y h
 refine⟨?_,gstep_lt F _ r hu1,by rw [gstep_len _ _ (by simp),List.length_cons,hul]⟩
 have hg:=gpow_lt F x (u.length+1) hx
 rw [gstep_pev F x r 1 u hx hr h1 h4,hul,gm_comm F 1 _ h1 (gpow_lt F x (rs.length+1) hx),gm_one F]
 have hz:gm m p (pev m p x (1 :: u)) (x ^^^ r)=0:=by
  rcases hmem with h | h
  ·rw [<- h3,h2,facs_root x rs _ h,gm_zero_left]
  ·rw [h,Nat.xor_self,gm_zero_right]
 rw [hz,Nat.zero_xor]
end
end Go.Proofs.YtgccjgpdjkhpdaaGreat.B
namespace Go.Proofs.YtgccjgpdjkhpdaaGreat.B
set_option linter.unusedVariables false
set_option linter.unusedSimpArgs false
section
variable {m p:Nat}
def gx (m p k:Nat):Nat:=glN m p k 1
theorem gx_lt (F:Fld m p)(k:Nat):gx m p k<2 ^ m:=glN_lt F k 1 (Nat.lt_of_lt_of_le (show 1<2 ^ 1 by decide) (Nat.pow_le_pow_right (by omega) F.one))
theorem gx_succ (k:Nat):gx m p (k+1)=gl m p (gx m p k):=rfl
theorem gm_one_left (F:Fld m p)(b:Nat)(hb:b<2 ^ m):gm m p 1 b=b:=by rw [gm_comm F 1 b (gx_lt F 0) hb,gm_one F]
theorem gx_add (F:Fld m p)(i j:Nat):gm m p (gx m p i) (gx m p j)=gx m p (i+j):=by
 unfold gx
 rw [gm_glN,gm_one_left F (glN m p j 1) (gx_lt F j),glN_glN]
theorem gx_period (n:Nat)(h:gx m p n=1)(k:Nat):gx m p (k+n)=gx m p k:=by
 unfold gx at h ⊢
 rw [<- glN_glN,h]
theorem gx_mod (n:Nat)(h0:0<n)(h:gx m p n=1)(k:Nat):gx m p (k%n)=gx m p k:=by
 have hq:∀ q r,gx m p (r+n*q)=gx m p r:=by
  intro q
  induction q with
  | zero=>intro r;rfl
  | succ q ih=>intro r;rw [Nat.mul_succ,<- Nat.add_assoc,gx_period n h,ih]
 have:=hq (k/n) (k%n)
 rw [Nat.mod_add_div] at this
 exact this.symm
structure Prim (m p:Nat):Prop where
 whole:gx m p (2 ^ m-1)=1
 least:∀ d,0<d->d<2 ^ m-1->gx m p d≠1
theorem ord_pos (F:Fld m p):0<2 ^ m-1:=by
 have:2 ^ 1<=2 ^ m:=Nat.pow_le_pow_right (by omega) F.one
 omega
theorem gx_ne (F:Fld m p)(hP:Prim m p)(k:Nat):gx m p k≠0:=by
 intro h
 have hz:∀ j,gx m p (k+j)=0:=by
  intro j
  rw [<- gx_add F,h,gm_zero_left]
 have hn:=ord_pos F
 have h2:=hz ((2 ^ m-1)*(k+1)-k)
 have hle:k<=(2 ^ m-1)*(k+1):=Nat.le_trans (Nat.le_succ k) (Nat.le_mul_of_pos_left _ hn)
 rw [Nat.add_sub_cancel' hle,<- gx_mod (2 ^ m-1) hn hP.whole,Nat.mul_mod_right] at h2
 have:gx m p 0=1:=rfl
 omega
theorem gx_inj (F:Fld m p)(hP:Prim m p)(i j:Nat)(hi:i<2 ^ m-1)(hj:j<2 ^ m-1)(he:gx m p i=gx m p j):i=j:=by
 have key:∀ a b,a<b->b<2 ^ m-1->gx m p a=gx m p b->False:=by
  intro a b hab hb h
  have h1:gx m p (a+(2 ^ m-1-a))=gx m p (b+(2 ^ m-1-a)):=by rw [<- gx_add F,<- gx_add F,h]
  rw [show a+(2 ^ m-1-a)=2 ^ m-1 by omega,show b+(2 ^ m-1-a)=(b-a)+(2 ^ m-1) by omega,gx_period _ hP.whole,hP.whole] at h1
  exact hP.least (b-a) (by omega) (by omega) h1.symm
 rcases Nat.lt_trichotomy i j with h | h | h
 ·exact absurd he (fun he=>key i j h hj he)
 ·exact h
 ·exact absurd he.symm (fun he=>key j i h hi he)
theorem gx_log (F:Fld m p)(hP:Prim m p)(a:Nat)(h0:a≠0)(ha:a<2 ^ m):∃ i,i<2 ^ m-1/\gx m p i=a:=by
 have hnd:((List.range (2 ^ m-1)).map (gx m p)).Nodup:=by
  refine List.pairwise_iff_getElem.2 ?_
  intro i j hi hj hij he
  simp only [List.length_map,List.length_range] at hi hj
  simp only [List.getElem_map,List.getElem_range] at he
  have:=gx_inj F hP i j hi hj he
  omega
 by_cases hm:a∈(List.range (2 ^ m-1)).map (gx m p)
 ·obtain⟨i,hi,he⟩:=List.mem_map.1 hm
  exact⟨i,List.mem_range.1 hi,he⟩
 ·have h2:(a :: (List.range (2 ^ m-1)).map (gx m p)).Nodup:=List.nodup_cons.2 ⟨hm,hnd⟩
  have hin:∀ x,x≠0->x<2 ^ m->x∈(List.range (2 ^ m-1)).map (·+1):=by
   intro x hx hl
   exact List.mem_map.2 ⟨x-1,List.mem_range.2 (by omega),by show x-1+1=x;omega⟩
  have hsub:(a :: (List.range (2 ^ m-1)).map (gx m p)) ⊆ (List.range (2 ^ m-1)).map (·+1):=by
   intro x hx
   rcases List.mem_cons.1 hx with h | h
   ·rw [h];exact hin a h0 ha
   ·obtain⟨i,_,rfl⟩:=List.mem_map.1 h
    exact hin _ (gx_ne F hP i) (gx_lt F i)
  have:=List.Nodup.length_le_of_subset h2 hsub
  rw [List.length_cons,List.length_map,List.length_map,List.length_range] at this
  omega
theorem gm_tab (F:Fld m p)(hP:Prim m p)(i j:Nat):gm m p (gx m p i) (gx m p j)=gx m p ((i+j)%(2 ^ m-1)):=by rw [gx_add F,gx_mod _ (ord_pos F) hP.whole]
def ordB (m p:Nat):Nat->Nat->Bool
 | 0,x=>x==1
 | k+1,x=>x != 1 && ordB m p k (gl m p x)
theorem prim_of (m p n:Nat)(hn:2 ^ m-1=n+1)(h:ordB m p n (gx m p 1)=true):Prim m p:=by
 have H:∀ (k i:Nat),ordB m p k (gx m p i)=true->gx m p (i+k)=1/\∀ d,i<=d->d<i+k->gx m p d≠1:=by
  intro k
  induction k with
  | zero=>intro i h;exact⟨by simpa [ordB] using h,fun d h1 h2=>by omega⟩
  | succ k ih=>
   intro i h
   rw [ordB,Bool.and_eq_true,<- gx_succ] at h
   obtain⟨h1,h2⟩:=h
   obtain⟨h3,h4⟩:=ih (i+1) h2
   refine⟨by rw [<- h3];congr 1;omega,fun d h5 h6=>?_⟩
   by_cases he:d=i
   ·subst he;simpa using h1
   ·exact h4 d (by omega) (by omega)
 obtain⟨h1,h2⟩:=H n 1 h
 exact⟨by rw [hn,Nat.add_comm];exact h1,fun d h3 h4=>h2 d h3 (by omega)⟩
theorem fld (m p:Nat)(h1:1<=m)(h2:2 ^ m<=p)(h3:p<2 ^ (m+1)):Fld m p:=⟨h1,h2,h3⟩
theorem fQR:Fld 8 285:=fld 8 285 (by decide) (by decide) (by decide)
theorem pQR:Prim 8 285:=prim_of 8 285 254 rfl (by decide +kernel)
end
end Go.Proofs.YtgccjgpdjkhpdaaGreat.B
namespace Go.Proofs.YtgccjgpdjkhpdaaGreat.B
open Go.RowKit Go.Proofs.YtgccjgpdjkhpdaaGreatW.PrintWords Go.Proofs.YtgccjgpdjkhpdaaGreatW.PrintLast Go.Proofs.YtgccjgpdjkhpdaaGreatW.PrintMore
set_option linter.unusedVariables false
set_option linter.unusedSimpArgs false
theorem make_int (n:Nat)(h:n<=1000000000)(w:World):(Instr.makeSlice 93 (.int .i64 (n:Int)) (.int .i64 (n:Int))).run Tryz.prog w=.ok (.slice (some ⟨w.heap.size,0,none⟩) n n) (w.alloc (.cells (nums .i64 (ints (List.replicate n 0))).toArray 3)):=by
 obtain⟨i,hi,hz,hs,hb⟩:=info_parts info3i
 have:=run_make_rowN (P:=Tryz.prog) 93 3 i (.int .i64 0) Tryz.underlying93 hi hz .i64 .i64 n n (Nat.le_refl _) (by rw [hb];omega) (by omega) w
 have e:madeCells (Value.int .i64 0).cells (n*1)=(nums .i64 (ints (List.replicate n 0))).toArray:=by
  apply Array.toList_inj.1
  rw [Nat.mul_one]
  exact (toList_madeCells_one _ _).trans (by simp [nums,ints])
 rw [this,hs,e]
theorem getD_set_nat (xs:List Nat)(i j v:Nat)(hi:i<xs.length):(xs.set i v).getD j 0=if i=j then v else xs.getD j 0:=by
 rw [List.getD_eq_getElem?_getD,List.getD_eq_getElem?_getD,List.getElem?_set]
 by_cases e:i=j
 ·subst e;simp [hi]
 ·simp [e]
def expsTo (m p n i:Nat):List Nat:=(List.range i).map (gx m p)++List.replicate (n-i) 0
theorem expsTo_len (m p n i:Nat)(h:i<=n):(expsTo m p n i).length=n:=by unfold expsTo;simp;omega
theorem expsTo_set (m p n i:Nat)(h:i<n):(expsTo m p n i).set i (gx m p i)=expsTo m p n (i+1):=by
 unfold expsTo
 have hl:((List.range i).map (gx m p)).length=i:=by simp
 rw [List.set_append_right _ _ (by omega),hl,Nat.sub_self,show n-i=(n-(i+1))+1 by omega,List.replicate_succ,List.set_cons_zero,List.range_succ,List.map_append,List.append_assoc]
 rfl
def exps (m p:Nat):List Nat:=(List.range (2 ^ m)).map (gx m p)
theorem expsTo_all (m p:Nat):expsTo m p (2 ^ m) (2 ^ m)=exps m p:=by unfold expsTo exps;simp
theorem exps_len (m p:Nat):(exps m p).length=2 ^ m:=by simp [exps]
theorem exps_get (m p i:Nat)(h:i<2 ^ m):(exps m p).getD i 0=gx m p i:=by
 unfold exps
 rw [List.getD_eq_getElem?_getD,List.getElem?_map,List.getElem?_range h]
 rfl
structure Logs (m p n:Nat)(ls:List Nat):Prop where
 len:ls.length=2 ^ m
 log:∀ i,i<n->ls.getD (gx m p i) 0=i
theorem Logs.step {m p n:Nat}{ls:List Nat}(F:Fld m p)(hP:Prim m p)(h:Logs m p n ls)(hn:n<2 ^ m-1):Logs m p (n+1) (ls.set (gx m p n) n):=by
 refine⟨by rw [List.length_set,h.len],fun i hi=>?_⟩
 rw [getD_set_nat _ _ _ _ (by rw [h.len];exact gx_lt F n)]
 by_cases e:i=n
 ·subst e;rw [if_pos rfl]
 ·rw [if_neg,h.log i (by omega)]
  intro he
  exact e (gx_inj F hP i n (by omega) hn he.symm)
def GFAt (w:World)(gf m p b:Nat):Prop:=∃ ge gl zp op ls,Blk w gf 233 #[.slice (some ⟨ge,0,none⟩) (2 ^ m) (2 ^ m),.slice (some ⟨gl,0,none⟩) (2 ^ m) (2 ^ m),.pointer (some ⟨zp,0,none⟩),.pointer (some ⟨op,0,none⟩),.int .i64 ((2 ^ m:Nat):Int),.int .i64 (p:Int),.int .i64 (b:Int)]/\
 IBlk w ge (exps m p)/\IBlk w gl ls/\Logs m p (2 ^ m-1) ls/\PolyAt w zp gf [0]/\PolyAt w op gf [1]
theorem GFAt.below {w w':World}{gf m p b B:Nat}(h:GFAt w gf m p b)(hb:Below B w w')(hB:w.heap.size<=B):GFAt w' gf m p b:=by
 obtain⟨ge,gl,zp,op,ls,h1,h2,h3,h4,h5,h6⟩:=h
 exact⟨ge,gl,zp,op,ls,h1.below hb (by have:=h1.lt;omega),Blk.below h2 hb (by have:=Blk.lt h2;omega),Blk.below h3 hb (by have:=Blk.lt h3;omega),h4,h5.below hb hB,h6.below hb hB⟩
theorem double_small {m p x:Nat}(F:Fld m p)(hx:x<2 ^ m)(h:2*x<2 ^ m):gl m p x=2*x:=by
 unfold gl
 have hb:x.testBit (m-1)=false:=by
  apply Nat.testBit_lt_two_pow
  have:2 ^ m=2*2 ^ (m-1):=by rw [<- Nat.pow_succ'];congr 1;have:=F.one;omega
  omega
 rw [hb,if_neg (by simp),Nat.xor_zero]
theorem double_great {m p x:Nat}(F:Fld m p)(hx:x<2 ^ m)(h:2 ^ m<=2*x):gl m p x=2*x ^^^ p:=by
 unfold gl
 have e:2 ^ m=2*2 ^ (m-1):=by rw [<- Nat.pow_succ'];congr 1;have:=F.one;omega
 have hb:x.testBit (m-1)=true:=by
  rw [Nat.testBit_eq_decide_div_mod_eq,decide_eq_true_eq]
  have h2:x/2 ^ (m-1)=1:=by
   apply Nat.div_eq_of_lt_le<;>omega
  rw [h2]
 rw [hb,if_pos rfl]
theorem i64_xor_nat (a b:Nat)(ha:a<4294967296)(hb:b<4294967296):Go.bits .xor .i64 (a:Int) (b:Int)=((a ^^^ b:Nat):Int):=by
 have ha':a%2 ^ IntKind.i64.bits=a:=Nat.mod_eq_of_lt (Nat.lt_of_lt_of_le ha (by decide))
 have hb':b%2 ^ IntKind.i64.bits=b:=Nat.mod_eq_of_lt (Nat.lt_of_lt_of_le hb (by decide))
 have hx:a ^^^ b<2 ^ 32:=Nat.xor_lt_two_pow ha hb
 simp only [Go.bits,BitVec.ofInt_natCast,BitVec.toNat_xor,BitVec.toNat_ofNat,ha',hb']
 rw [IntKind.wrap_i64]
 omega
set_option maxHeartbeats 4000000 in
theorem newGF (w:World)(m p b:Nat)(F:Fld m p)(hP:Prim m p)(hm:m<=12)(hb:b<=1) :
  Calls Tryz.prog 124 #[.int .i64 (p:Int),.int .i64 ((2 ^ m:Nat):Int),.int .i64 (b:Int)] w fun e w'=>∃ gf,e=.returned (.pointer (some ⟨gf,0,none⟩))/\w.heap.size<=gf/\GFAt w' gf m p b/\Below w.heap.size w w':=by
 obtain⟨N,hN⟩:∃ N,2 ^ m=N:=⟨_,rfl⟩
 have hN1:N<=4096:=by rw [<- hN];exact Nat.le_trans (Nat.pow_le_pow_right (by omega) hm) (by decide)
 have hN2:2<=N:=by rw [<- hN];exact Nat.le_trans (by decide:2<=2 ^ 1) (Nat.pow_le_pow_right (by omega) F.one)
 have hp1:p<=8192:=by have:=F.hi;rw [Nat.pow_succ,hN] at this;omega
 rw [hN]
 have HN:=Aside0.mk hN
 have HF:=Aside0.mk F
 have HP:=Aside0.mk hP
 clear hN F hP
 have mk1:=make_int N (by omega)
 go_enter Tryz.func124,Tryz.ntmps124
 go_wp2
 obtain⟨B0,hB0⟩:∃ B0,B0=w.heap.size:=⟨_,rfl⟩
 rw [<- hB0]
 obtain⟨w2,hw2⟩:∃ w2,w2=((w.alloc (.cells #[.slice none 0 0,.slice none 0 0,.pointer none,.pointer none,.int .i64 (N:Int),.int .i64 (p:Int),.int .i64 (b:Int)] 233)).alloc (.cells (nums .i64 (ints (List.replicate N 0))).toArray 3)).alloc (.cells (nums .i64 (ints (List.replicate N 0))).toArray 3):=⟨_,rfl⟩
 rw [<- hw2]
 have HBG:=Aside0.mk (show Blk w2 B0 233 #[.slice none 0 0,.slice none 0 0,.pointer none,.pointer none,.int .i64 (N:Int),.int .i64 (p:Int),.int .i64 (b:Int)] by rw [hw2,hB0];exact ((Blk.new w _ _).alloc _).alloc _)
 have HBE:=Aside0.mk (show IBlk w2 (B0+1) (List.replicate N 0) by
  rw [hw2,hB0]
  have h:=Blk.new (w.alloc (.cells #[.slice none 0 0,.slice none 0 0,.pointer none,.pointer none,.int .i64 (N:Int),.int .i64 (p:Int),.int .i64 (b:Int)] 233)) 3 (nums .i64 (ints (List.replicate N 0))).toArray
  have h2:=h.alloc (.cells (nums .i64 (ints (List.replicate N 0))).toArray 3)
  unfold IBlk
  simpa using h2)
 have HBL:=Aside0.mk (show IBlk w2 (B0+1+1) (List.replicate N 0) by
  rw [hw2,hB0]
  have h:=Blk.new ((w.alloc (.cells #[.slice none 0 0,.slice none 0 0,.pointer none,.pointer none,.int .i64 (N:Int),.int .i64 (p:Int),.int .i64 (b:Int)] 233)).alloc (.cells (nums .i64 (ints (List.replicate N 0))).toArray 3)) 3 (nums .i64 (ints (List.replicate N 0))).toArray
  unfold IBlk
  simpa using h)
 have HBW:=Aside0.mk (show Below B0 w w2 by rw [hw2,hB0];exact below_alloc (below_alloc (below_alloc (Below.refl _ _) _) _) _)
 have HB0:=Aside0.mk hB0
 clear hw2 hB0 mk1
 go_loopw [10,11] (fun vx vi wr=>∃ i x:Nat,i<=N/\vi=.int .i64 (i:Int)/\vx=.int .i64 (x:Int)/\x<N/\Aside0 (x=gx m p i)/\Aside0 (IBlk wr (B0+1) (expsTo m p N i))/\Aside0 (Turn w2 wr (B0+1))) (fun _ vi _=>(N-intOf vi).toNat)
 case atStart=>exact⟨0,1,by omega,rfl,rfl,by omega,⟨rfl⟩,⟨by have:=HBE.out;exact this⟩,⟨Turn.refl _ _⟩⟩
 case round=>
  obtain⟨i,x,hi,rfl,rfl,hx,HX,HE,HT⟩:=hrel
  by_cases hlt:i<N
  ·have hel:=expsTo_len m p N i (by omega)
   have k1:=HE.out.cell i (by omega)
   have k2:wr.frozen? ⟨B0+1,i,none⟩=false:=Blk.frozen HE.out i
   obtain⟨y,hy⟩:∃ y,(expsTo m p N i).getD i 0=y:=⟨_,rfl⟩
   rw [hy] at k1
   have hgl:=gl_lt HF.out x (by rw [HN.out];omega)
   have hsucc:gl m p x=gx m p (i+1):=by rw [gx_succ,<- HX.out]
   have hset:IBlk (wr.setCell ⟨B0+1,i,none⟩ (.int .i64 (x:Int))) (B0+1) (expsTo m p N (i+1)):=by
    rw [<- expsTo_set m p N i hlt,<- HX.out]
    exact HE.out.set i x
   have hT2:Turn w2 (wr.setCell ⟨B0+1,i,none⟩ (.int .i64 (x:Int))) (B0+1):=HT.out.trans (Turn.set _ _ _ _)
   rw [HN.out] at hgl
   obtain⟨z,hz⟩:∃ z,gl m p x=z:=⟨_,rfl⟩
   rw [hz] at hgl hsucc
   have HS:=Aside0.mk hsucc
   have HSET:=Aside0.mk hset
   have HT2:=Aside0.mk hT2
   have HZ:=Aside0.mk hz
   clear hel hy hsucc hz hset hT2
   by_cases hsm:2*x<N
   ·have hzx:2*x=z:=by rw [<- HZ.out,double_small HF.out (by rw [HN.out];omega) (by rw [HN.out];omega)]
    have hzi:(x:Int)*2=(z:Int):=by omega
    have hzb:decide ((z:Int)≥(N:Int))=false:=decide_eq_false (by omega)
    clear hzx
    go_wp2
    go_roundw
    case rel=>exact⟨i+1,z,by omega,by go_num,rfl,hgl,HS,HSET,HT2⟩
    case measure=>simp [intOf];omega
   ·have hzx:2*x ^^^ p=z:=by rw [<- HZ.out,double_great HF.out (by rw [HN.out];omega) (by rw [HN.out];omega)]
    have hxr:Go.bits .xor .i64 ((x:Int)*2) (p:Int)=(z:Int):=by
     have:=i64_xor_nat (2*x) p (by omega) (by omega)
     rw [hzx] at this
     rw [<- this]
     congr 1
     omega
    have had:Go.bits .and .i64 (z:Int) ((N:Int)-1)=(z:Int):=by
     have:=i64_and_nat z (N-1) (by omega) (by omega)
     rw [show ((N-1:Nat):Int)=(N:Int)-1 by omega] at this
     rw [this,<- HN.out,Nat.and_two_pow_sub_one_eq_mod,HN.out,Nat.mod_eq_of_lt hgl]
    clear hzx
    go_wp2
    go_roundw
    case rel=>exact⟨i+1,z,by omega,by go_num,rfl,hgl,HS,HSET,HT2⟩
    case measure=>simp [intOf];omega
  ·have:i=N:=by omega
   subst this
   go_wp2
   have HEall:=Aside0.mk (show IBlk wr (B0+1) (exps m p) by have:=HE.out;rw [<- HN.out,expsTo_all] at this;exact this)
   have HBL2:=Aside0.mk (show IBlk wr (B0+1+1) (List.replicate i 0) from HT.out.blk HBL.out (by omega))
   obtain⟨w3,rfl⟩:∃ w3:World,w3=wr:=⟨_,rfl⟩
   go_loopw [12] (fun vi w4=>∃ j:Nat,∃ ls,j<=i-1/\vi=.int .i64 (j:Int)/\Aside0 (IBlk w4 (B0+1+1) ls)/\Aside0 (Logs m p j ls)/\Aside0 (Turn w3 w4 (B0+1+1))) (fun vi _=>(i-intOf vi).toNat)
   case atStart=>exact⟨0,_,by omega,rfl,HBL2,⟨⟨by rw [List.length_replicate,HN.out],fun _ h=>by omega⟩⟩,⟨Turn.refl _ _⟩⟩
   case round=>
    obtain⟨j,ls,hj,rfl,HL,HLG,HT4⟩:=hrel
    by_cases hltj:j<i-1
    ·have hge:IBlk wr (B0+1) (exps m p):=HT4.out.blk HEall.out (by omega)
     have k1:=hge.cell j (by rw [exps_len,HN.out];omega)
     rw [exps_get m p j (by rw [HN.out];omega)] at k1
     have hgl:=gx_lt HF.out j
     rw [HN.out] at hgl
     obtain⟨x,hx⟩:∃ x,gx m p j=x:=⟨_,rfl⟩
     rw [hx] at k1 hgl
     have k2:=HL.out.cell x (by rw [HLG.out.len,HN.out];omega)
     have k3:wr.frozen? ⟨B0+1+1,x,none⟩=false:=Blk.frozen HL.out x
     have HSL:=Aside0.mk (HLG.out.step HF.out HP.out (by rw [HN.out];omega))
     rw [hx] at HSL
     have HSET:=Aside0.mk (HL.out.set x j)
     have HT5:=Aside0.mk (HT4.out.trans (Turn.set wr (B0+1+1) x (.int .i64 (j:Int))))
     clear hge hx
     go_wp2
     go_roundw
     case rel=>exact⟨j+1,_,by omega,by go_num,HSET,HSL,HT5⟩
     case measure=>simp [intOf];omega
    ·have:j=i-1:=by omega
     subst this
     have hwrap:((i-1:Nat):Int)=(i:Int)-1:=by omega
     have hbg:Blk wr B0 233 #[.slice none 0 0,.slice none 0 0,.pointer none,.pointer none,.int .i64 (i:Int),.int .i64 (p:Int),.int .i64 (b:Int)]:=HT4.out.blk (HT.out.blk HBG.out (by omega)) (by omega)
     have c0:=hbg.cell 0
     have c1:=hbg.cell 1
     have f0:=hbg.frozen 0
     have f1:=hbg.frozen 1
     have HBG5:=Aside0.mk hbg
     clear hbg
     go_wp2_with fail
     obtain⟨w5,hw5⟩:∃ w5,w5=(wr.setCell ⟨B0,0,none⟩ (.slice (some ⟨B0+1,0,none⟩) i i)).setCell ⟨B0,1,none⟩ (.slice (some ⟨B0+1+1,0,none⟩) i i):=⟨_,rfl⟩
     have HT5:=Aside0.mk (show Turn wr w5 B0 by rw [hw5];exact (Turn.set _ _ _ _).trans (Turn.set _ _ _ _))
     have HG5:=Aside0.mk (show Blk w5 B0 233 #[.slice (some ⟨B0+1,0,none⟩) i i,.slice (some ⟨B0+1+1,0,none⟩) i i,.pointer none,.pointer none,.int .i64 (i:Int),.int .i64 (p:Int),.int .i64 (b:Int)] by
      rw [hw5]
      exact blk_set (blk_set HBG5.out 0 _) 1 _)
     rw [<- hw5]
     have hsz:wr.heap.size=w5.heap.size:=HT5.out.size.symm
     rw [hsz]
     clear hw5 hsz c0 c1 f0 f1
     have hb6:=Aside0.mk (below_alloc (Below.refl w5.heap.size w5) (.cells #[.int .i64 0] 3))
     refine (newPoly _ B0 w5.heap.size 0 1 [0] (IRow.whole (show IBlk (w5.alloc (.cells (nums .i64 (ints [0])).toArray 3)) w5.heap.size [0] from Blk.new w5 3 (nums .i64 (ints [0])).toArray)) (by simp) (by simp) (by simp)).mono ?_
     rintro e w7 ⟨zp,rfl,hzp,hPZ,hB7⟩
     have hs6:w5.heap.size+1=(w5.alloc (.cells #[.int .i64 0] 3)).heap.size:=by simp
     have HB57:=Aside0.mk (show Below w5.heap.size w5 w7 from hb6.out.trans (hB7.mono (by simp)))
     have hG7:Blk w7 B0 233 #[.slice (some ⟨B0+1,0,none⟩) i i,.slice (some ⟨B0+1+1,0,none⟩) i i,.pointer none,.pointer none,.int .i64 (i:Int),.int .i64 (p:Int),.int .i64 (b:Int)]:=HG5.out.below HB57.out HG5.out.lt
     have c2:=hG7.cell 2
     have f2:=hG7.frozen 2
     have hzp':w5.heap.size<zp:=by have:(w5.alloc (.cells #[.int .i64 0] 3)).heap.size<=zp:=hzp;omega
     have HPZ:=Aside0.mk hPZ
     have HG7:=Aside0.mk hG7
     have HZP:=Aside0.mk hzp'
     clear hPZ hB7 hzp hs6 hG7 hzp'
     go_wp2_with fail
     obtain⟨w8,hw8⟩:∃ w8,w8=w7.setCell ⟨B0,2,none⟩ (.pointer (some ⟨zp,0,none⟩)):=⟨_,rfl⟩
     have HT8:=Aside0.mk (show Turn w7 w8 B0 by rw [hw8];exact Turn.set _ _ _ _)
     have HG8:=Aside0.mk (show Blk w8 B0 233 #[.slice (some ⟨B0+1,0,none⟩) i i,.slice (some ⟨B0+1+1,0,none⟩) i i,.pointer (some ⟨zp,0,none⟩),.pointer none,.int .i64 (i:Int),.int .i64 (p:Int),.int .i64 (b:Int)] by
      rw [hw8]
      exact blk_set HG7.out 2 _)
     rw [<- hw8]
     have hsz:w7.heap.size=w8.heap.size:=HT8.out.size.symm
     rw [hsz]
     clear hw8 hsz c2 f2
     have hb9:=Aside0.mk (below_alloc (Below.refl w8.heap.size w8) (.cells #[.int .i64 1] 3))
     refine (newPoly _ B0 w8.heap.size 0 1 [1] (IRow.whole (show IBlk (w8.alloc (.cells (nums .i64 (ints [1])).toArray 3)) w8.heap.size [1] from Blk.new w8 3 (nums .i64 (ints [1])).toArray)) (by simp) (by simp) (by simp)).mono ?_
     rintro e w9 ⟨op,rfl,hop,hPO,hB9⟩
     have hs9:w8.heap.size+1=(w8.alloc (.cells #[.int .i64 1] 3)).heap.size:=by simp
     have HB89:=Aside0.mk (show Below w8.heap.size w8 w9 from hb9.out.trans (hB9.mono (by simp)))
     have hG9:Blk w9 B0 233 #[.slice (some ⟨B0+1,0,none⟩) i i,.slice (some ⟨B0+1+1,0,none⟩) i i,.pointer (some ⟨zp,0,none⟩),.pointer none,.int .i64 (i:Int),.int .i64 (p:Int),.int .i64 (b:Int)]:=HG8.out.below HB89.out HG8.out.lt
     have c3:=hG9.cell 3
     have f3:=hG9.frozen 3
     have hop':w8.heap.size<op:=by have:(w8.alloc (.cells #[.int .i64 1] 3)).heap.size<=op:=hop;omega
     have HPO:=Aside0.mk hPO
     have HG9:=Aside0.mk hG9
     have HOP:=Aside0.mk hop'
     clear hPO hB9 hop hs9 hG9 hop'
     go_wp2_with fail
     go_ret
     obtain⟨wz,hwz⟩:∃ wz,wz=w9.setCell ⟨B0,3,none⟩ (.pointer (some ⟨op,0,none⟩)):=⟨_,rfl⟩
     have hTz:Turn w9 wz B0:=by rw [hwz];exact Turn.set _ _ _ _
     have hGz:Blk wz B0 233 #[.slice (some ⟨B0+1,0,none⟩) i i,.slice (some ⟨B0+1+1,0,none⟩) i i,.pointer (some ⟨zp,0,none⟩),.pointer (some ⟨op,0,none⟩),.int .i64 (i:Int),.int .i64 (p:Int),.int .i64 (b:Int)]:=by
      rw [hwz]
      exact blk_set HG9.out 3 _
     rw [<- hwz]
     have sB:B0=w.heap.size:=HB0.out
     have s2:wr.heap.size=w3.heap.size:=HT4.out.size
     have s5:w5.heap.size=wr.heap.size:=HT5.out.size
     have s57:w5.heap.size<=w7.heap.size:=HB57.out.size
     have s78:w8.heap.size=w7.heap.size:=HT8.out.size
     have s89:w8.heap.size<=w9.heap.size:=HB89.out.size
     have hT9:=(Turn.set w9 B0 3 (.pointer (some ⟨op,0,none⟩)))
     rw [<- hwz] at hT9
     have lBE:B0+1<wr.heap.size:=Blk.lt (HT4.out.blk HEall.out (by omega):IBlk wr (B0+1) (exps m p))
     have lBL:B0+1+1<wr.heap.size:=Blk.lt HL.out
     have kE:IBlk wz (B0+1) (exps m p):=by
      have a4:IBlk wr (B0+1) (exps m p):=HT4.out.blk HEall.out (by omega)
      have a5:IBlk w5 (B0+1) (exps m p):=HT5.out.blk a4 (by omega)
      have a7:IBlk w7 (B0+1) (exps m p):=Blk.below a5 HB57.out (Blk.lt a5)
      have a8:IBlk w8 (B0+1) (exps m p):=HT8.out.blk a7 (by omega)
      have a9:IBlk w9 (B0+1) (exps m p):=Blk.below a8 HB89.out (Blk.lt a8)
      exact hT9.blk a9 (by omega)
     have kL:IBlk wz (B0+1+1) ls:=by
      have a5:IBlk w5 (B0+1+1) ls:=HT5.out.blk HL.out (by omega)
      have a7:IBlk w7 (B0+1+1) ls:=Blk.below a5 HB57.out (Blk.lt a5)
      have a8:IBlk w8 (B0+1+1) ls:=HT8.out.blk a7 (by omega)
      have a9:IBlk w9 (B0+1+1) ls:=Blk.below a8 HB89.out (Blk.lt a8)
      exact hT9.blk a9 (by omega)
     have kZ:PolyAt wz zp B0 [0]:=by
      have a7:PolyAt w7 zp B0 [0]:=HPZ.out
      have a8:PolyAt w8 zp B0 [0]:=a7.upd (Upd.of_turn HT8.out) HG7.out (by decide) (by decide)
      have a9:PolyAt w9 zp B0 [0]:=a8.below HB89.out (Nat.le_refl _)
      exact a9.upd (Upd.of_turn hT9) HG9.out (by decide) (by decide)
     have kO:PolyAt wz op B0 [1]:=by
      have a9:PolyAt w9 op B0 [1]:=HPO.out
      exact a9.upd (Upd.of_turn hT9) HG9.out (by decide) (by decide)
     refine⟨B0,rfl,by omega,⟨B0+1,B0+1+1,zp,op,ls,?_,kE,kL,?_,kZ,kO⟩,?_⟩
     ·rw [HN.out]
      exact hGz
     ·rw [HN.out]
      exact HLG.out
     ·rw [<- sB]
      have b3:Below B0 w w3:=HBW.out.trans (HT.out.below (by omega))
      have b4:Below B0 w wr:=b3.trans (HT4.out.below (by omega))
      have b5:Below B0 w w5:=b4.trans (HT5.out.below (by omega))
      have b7:Below B0 w w7:=b5.trans (HB57.out.mono (by omega))
      have b8:Below B0 w w8:=b7.trans (HT8.out.below (by omega))
      have b9:Below B0 w w9:=b8.trans (HB89.out.mono (by omega))
      exact b9.trans (hT9.below (by omega))
theorem gfQR (w:World):Calls Tryz.prog 79 #[] w fun e w'=>∃ gf,e=.returned (.pointer (some ⟨gf,0,none⟩))/\w.heap.size<=gf/\GFAt w' gf 8 285 0/\Below w.heap.size w w':=by
 have k:Calls Tryz.prog 124 #[.int .i64 285,.int .i64 256,.int .i64 0] w _:=newGF w 8 285 0 fQR pQR (by omega) (by omega)
 go_enter Tryz.func79,Tryz.ntmps79
 go_wp2_with (go_at_call 124;refine k.mono ?_;rintro e w' ⟨gf,rfl,h1,h2,h3⟩)
 have H2:=Aside0.mk h2
 clear h2
 go_ret
 exact⟨gf,rfl,h1,H2.out,h3⟩
theorem newRS (w:World)(gf:Nat):Calls Tryz.prog 78 #[.pointer (some ⟨gf,0,none⟩)] w fun e w'=>e=.returned (.pointer (some ⟨w.heap.size,0,none⟩))/\w'=w.alloc (.cells #[.pointer (some ⟨gf,0,none⟩)] 196):=by
 go_enter Tryz.func78,Tryz.ntmps78
 go_wp2
 go_ret
 exact⟨rfl,rfl⟩
def DecAt (w:World)(d rs gf:Nat):Prop:=Blk w d 137 #[.pointer (some ⟨rs,0,none⟩)]/\Blk w rs 196 #[.pointer (some ⟨gf,0,none⟩)]/\GFAt w gf 8 285 0
theorem DecAt.below {w w':World}{d rs gf B:Nat}(h:DecAt w d rs gf)(hb:Below B w w')(hB:w.heap.size<=B):DecAt w' d rs gf :=
 ⟨h.1.below hb (by have:=h.1.lt;omega),h.2.1.below hb (by have:=h.2.1.lt;omega),h.2.2.below hb hB⟩
theorem newDec (w:World):Calls Tryz.prog 36 #[] w fun e w'=>∃ d rs gf,e=.returned (.pointer (some ⟨d,0,none⟩))/\w.heap.size<=gf/\w.heap.size<=rs/\w.heap.size<=d/\DecAt w' d rs gf/\Below w.heap.size w w':=by
 go_enter Tryz.func36,Tryz.ntmps36
 go_wp2_with (first | (go_at_call 79;refine (gfQR _).mono ?_;rintro e w' ⟨gf,rfl,h1,h2,h3⟩;have H2:=Aside0.mk h2;have H3:=Aside0.mk h3;clear h2 h3) | (go_at_call 78;refine (newRS _ gf).mono ?_;rintro e w'' ⟨rfl,rfl⟩))
 go_ret
 have hs:=H3.out.size
 refine⟨w'.heap.size+1,w'.heap.size,gf,rfl,h1,by omega,by omega,⟨?_,(Blk.new w' 196 _).alloc _,?_⟩,below_alloc (below_alloc H3.out _) _⟩
 ·simpa using Blk.new (w'.alloc (.cells #[.pointer (some ⟨gf,0,none⟩)] 196)) 137 #[.pointer (some ⟨w'.heap.size,0,none⟩)]
 ·exact H2.out.below (below_alloc (below_alloc (Below.refl _ _) _) _) (Nat.le_refl _)
structure Square (rows:List (List Bool))(n:Nat):Prop where
 len:rows.length=n
 head:(rows.getD 0 []).length=n
 row:∀ y,y<n->n<=(rows.getD y []).length/\(rows.getD y []).length<=1000000
def VerOK (f:Nat->Nat->Bool)(v:Nat):Prop:=7<=v->hd (vacc f (17+4*v) 18) (verTabN.getD (v-7) 0)<=3
theorem readVersion (w:World)(p g b v:Nat)(fm:Value)(f:Nat->Nat->Bool)(hP:Parser w p g v fm)(G:Grid w g b (17+4*v) (17+4*v) f)(hv:1<=v/\v<=40)(hok:VerOK f v) :
  Calls Tryz.prog 39 #[.pointer (some ⟨p,0,none⟩)] w (VerRead w p g v fm):=by
 obtain⟨x1,hB,hx⟩:=hP
 rcases hx with rfl | ⟨pv,rfl,hV⟩
 ·by_cases h:v<=6
  ·exact readVersion_small w p g b v fm f hB G ⟨hv.1,h⟩
  ·exact readVersion_great w p g b v fm f hB G ⟨by omega,hv.2⟩ (hok (by omega))
 ·exact readVersion_again w p g v pv fm hB hV
theorem verNum (w:World)(p n:Nat)(v:VerRow)(h:VerAt w p (n:Int) v):Calls Tryz.prog 41 #[.pointer (some ⟨p,0,none⟩)] w fun e w'=>e=.returned (.int .i64 (n:Int))/\w=w':=by
 obtain⟨gc,ge,g,h1,_⟩:=h
 exact ver_num w p _ (h1.cell 0)
theorem fmtLevel (w:World)(q d:Nat)(h:FmtAt w q d):Calls Tryz.prog 42 #[.pointer (some ⟨q,0,none⟩)] w fun e w'=>e=.returned (.int .i64 ((d/8:Nat):Int))/\w=w':=by
 have c0:w.cell? ⟨q,0,none⟩=_:=Blk.cell h 0
 obtain⟨x,hx⟩:∃ x,d/8=x:=⟨_,rfl⟩
 rw [hx] at c0 ⊢
 clear h hx
 replace c0:w.cell? ⟨q,0,none⟩=some (.int .i64 (x:Int)):=c0
 go_enter Tryz.func42,Tryz.ntmps42
 go_wp2
 go_ret
 exact⟨rfl,rfl⟩
theorem fmtMask (w:World)(q d:Nat)(h:FmtAt w q d):Calls Tryz.prog 44 #[.pointer (some ⟨q,0,none⟩)] w fun e w'=>e=.returned (.int .u8 ((d%8:Nat):Int))/\w=w':=by
 have c0:w.cell? ⟨q,1,none⟩=_:=Blk.cell h 1
 obtain⟨x,hx⟩:∃ x,d%8=x:=⟨_,rfl⟩
 rw [hx] at c0 ⊢
 clear h hx
 replace c0:w.cell? ⟨q,1,none⟩=some (.int .u8 (x:Int)):=c0
 go_enter Tryz.func44,Tryz.ntmps44
 go_wp2
 go_ret
 exact⟨rfl,rfl⟩
theorem ver_same (w:World)(pv v:Nat)(r:VerRow)(h:VerAt w pv (v:Int) r):Calls Tryz.prog 41 #[.pointer (some ⟨pv,0,none⟩)] w fun e w'=>e=.returned (.int .i64 (v:Int))/\w=w':=verNum w pv v r h
def rowBits (m:Nat):List Int:=if m=1 then [10,12,14] else if m=2 then [9,11,13] else [8,16,16]
theorem modeRow (w:World)(m:Nat)(hm:m=1\/m=2\/m=4):Calls Tryz.prog 144 #[.int .i64 (m:Int)] w fun e w'=>e=.returned (.slice (some ⟨w.heap.size,0,none⟩) 3 3)/\w'=w.alloc (.cells (nums .i64 (rowBits m)).toArray 3):=by
 rcases hm with rfl | rfl | rfl
 all_goals
  go_enter Tryz.func144,Tryz.ntmps144
  go_wp2
  go_ret
  exact⟨rfl,rfl⟩
def verOff (v:Nat):Nat:=if v<=9 then 0 else if v<=26 then 1 else 2
theorem row_cnt (m v:Nat)(hm:m=1\/m=2\/m=4):rd (rowBits m) (verOff v:Nat)=(cntBits m v:Int):=by
 have hv:(v<=9)\/(¬ v<=9/\v<=26)\/(¬ v<=9/\¬ v<=26):=by omega
 unfold verOff cntBits
 rcases hv with h | ⟨h,h2⟩ | ⟨h,h2⟩<;>rcases hm with rfl | rfl | rfl<;>simp [*,rowBits,rd]<;>(first | rfl | omega)
theorem cntOf (w:World)(pv v m:Nat)(r:VerRow)(h:VerAt w pv (v:Int) r)(hv:1<=v/\v<=40)(hm:m=1\/m=2\/m=4) :
  Calls Tryz.prog 111 #[.int .i64 (m:Int),.pointer (some ⟨pv,0,none⟩)] w fun e w'=>e=.returned (.int .i64 (cntBits m v:Int))/\Below w.heap.size w w':=by
 have kv:=ver_same w pv v r h
 have K:=Aside0.mk (row_cnt m v hm)
 have ho:verOff v<=2:=by unfold verOff;split<;>first | omega | (split<;>omega)
 obtain⟨o,hoo⟩:∃ o,verOff v=o:=⟨_,rfl⟩
 rw [hoo] at K ho
 have hlen:(rowBits m).length=3:=by unfold rowBits;rcases hm with rfl | rfl | rfl<;>rfl
 have HB:=Aside0.mk (Blk.new w 3 (nums .i64 (rowBits m)).toArray)
 have c1:(w.alloc (.cells (nums .i64 (rowBits m)).toArray 3)).cell? ⟨w.heap.size,o,none⟩=some (.int .i64 (cntBits m v:Int)):=by
  have:=HB.out.ucell (o:Int) (by omega) (by rw [hlen];omega)
  rw [Int.toNat_natCast,K.out] at this
  exact this
 have km:=modeRow w m hm
 obtain⟨w2,hw2⟩:∃ w2,w2=w.alloc (.cells (nums .i64 (rowBits m)).toArray 3):=⟨_,rfl⟩
 rw [<- hw2] at c1 km
 have HBel:=Aside0.mk (show Below w.heap.size w w2 by rw [hw2];exact below_alloc (Below.refl _ _) _)
 clear h hw2 hlen
 have hcs:(v<=9/\o=0)\/(10<=v/\v<=26/\o=1)\/(27<=v/\o=2):=by unfold verOff at hoo;split at hoo<;>first | omega | (split at hoo<;>omega)
 clear hoo ho
 rcases hcs with⟨h1,rfl⟩ | ⟨h1,h2,rfl⟩ | ⟨h1,rfl⟩
 all_goals
  go_enter Tryz.func111,Tryz.ntmps111
  go_wp2_with (first | (go_at_call 41;refine kv.mono ?_;rintro e w' ⟨rfl,rfl⟩) | (go_at_call 144;refine km.mono ?_;rintro e w' ⟨rfl,rfl⟩))
  try go_quiet (fail)
  try go_wp2
  go_ret
  exact⟨rfl,HBel.out⟩
def lvName (l:Nat):ByteArray:=if l=0 then ⟨#[77]⟩ else if l=1 then ⟨#[76]⟩ else if l=2 then ⟨#[72]⟩ else ⟨#[81]⟩
theorem levelName (w:World)(l:Nat)(h:l<4):Calls Tryz.prog 118 #[.int .i64 (l:Int)] w fun e w'=>e=.returned (.string (lvName l))/\w=w':=by
 have:l=0\/l=1\/l=2\/l=3:=by omega
 rcases this with rfl | rfl | rfl | rfl
 all_goals
  go_enter Tryz.func118,Tryz.ntmps118
  go_wp2
  go_ret
  exact⟨rfl,rfl⟩
theorem newRes (w:World)(g n:Nat)(t nm:ByteArray)(A:Option Addr)(m c:Nat)(sq par md:Int)(hn:n<=1000000) :
  Calls Tryz.prog 117 #[.slice (some ⟨g,0,none⟩) n n,.string t,.slice A m c,.string nm,.int .i64 sq,.int .i64 par,.int .i64 md] w fun e w'=>e=.returned (.pointer (some ⟨w.heap.size,0,none⟩))/\
   w'=w.alloc (.cells #[.slice (some ⟨g,0,none⟩) n n,.int .i64 (8*(n:Int)),.string t,.slice A m c,.string nm,.int .i64 0,.int .i64 0,.nilIface,.int .i64 par,.int .i64 sq,.int .i64 md] 194):=by
 go_enter Tryz.func117,Tryz.ntmps117
 go_wp2
 go_ret
 exact⟨rfl,rfl⟩
def Drawn (w w':World):Prop:=∃ n,w'=w.drewN n
theorem gfExp (w:World)(gf m p b i:Nat)(h:GFAt w gf m p b)(hi:i<2 ^ m):Calls Tryz.prog 176 #[.pointer (some ⟨gf,0,none⟩),.int .i64 (i:Int)] w fun e w'=>e=.returned (.int .i64 (gx m p i:Int))/\w'=w:=by
 obtain⟨ge,gl,zp,op,ls,h1,h2,-⟩:=h
 have c0:w.cell? ⟨gf,0,none⟩=some (.slice (some ⟨ge,0,none⟩) (2 ^ m) (2 ^ m)):=h1.cell 0
 have k:=h2.cell i (by rw [exps_len];exact hi)
 rw [exps_get m p i hi] at k
 obtain⟨N,hN⟩:∃ N,2 ^ m=N:=⟨_,rfl⟩
 obtain⟨x,hx⟩:∃ x,gx m p i=x:=⟨_,rfl⟩
 rw [hN] at c0 hi
 rw [hx] at k ⊢
 clear h1 h2 hN hx
 go_enter Tryz.func176,Tryz.ntmps176
 go_wp2
 go_ret
 exact⟨rfl,rfl⟩
theorem gfBase (w:World)(gf m p b:Nat)(h:GFAt w gf m p b):Calls Tryz.prog 177 #[.pointer (some ⟨gf,0,none⟩)] w fun e w'=>e=.returned (.int .i64 (b:Int))/\w'=w:=by
 obtain⟨ge,gl,zp,op,ls,h1,-⟩:=h
 have c0:w.cell? ⟨gf,6,none⟩=some (.int .i64 (b:Int)):=h1.cell 6
 clear h1
 go_enter Tryz.func177,Tryz.ntmps177
 go_wp2
 go_ret
 exact⟨rfl,rfl⟩
theorem addSub (w:World)(a b:Nat)(ha:a<4294967296)(hb:b<4294967296):Calls Tryz.prog 184 #[.int .i64 (a:Int),.int .i64 (b:Int)] w fun e w'=>e=.returned (.int .i64 ((a ^^^ b:Nat):Int))/\w'=w:=by
 have k:=i64_xor_nat a b ha hb
 go_enter Tryz.func184,Tryz.ntmps184
 go_wp2
 go_ret
 exact⟨rfl,rfl⟩
theorem tmod_nat (s n:Nat):Int.tmod (s:Int) (n:Int)=((s%n:Nat):Int):=by
 rw [Int.tmod_eq_emod_of_nonneg (by omega)]
 rfl
theorem gfMul (w:World)(gf m p b x y:Nat)(F:Fld m p)(hP:Prim m p)(hm:m<=12)(h:GFAt w gf m p b)(hx:x<2 ^ m)(hy:y<2 ^ m):Calls Tryz.prog 186 #[.pointer (some ⟨gf,0,none⟩),.int .i64 (x:Int),.int .i64 (y:Int)] w fun e w'=>e=.returned (.int .i64 (gm m p x y:Int))/\Drawn w w':=by
 by_cases hx0:x=0
 ·subst hx0
  rw [gm_zero_left]
  clear h hx hy
  go_enter Tryz.func186,Tryz.ntmps186
  go_wp2
  go_ret
  exact⟨rfl,0,rfl⟩
 ·by_cases hy0:y=0
  ·subst hy0
   rw [gm_zero_right]
   clear h hx hy
   go_enter Tryz.func186,Tryz.ntmps186
   go_wp2
   go_ret
   exact⟨rfl,0,rfl⟩
  ·obtain⟨i,hi,hgi⟩:=gx_log F hP x hx0 hx
   obtain⟨j,hj,hgj⟩:=gx_log F hP y hy0 hy
   obtain⟨ge,gl,zp,op,ls,h1,h2,h3,h4,-⟩:=h
   have c0:w.cell? ⟨gf,0,none⟩=some (.slice (some ⟨ge,0,none⟩) (2 ^ m) (2 ^ m)):=h1.cell 0
   have c1:w.cell? ⟨gf,1,none⟩=some (.slice (some ⟨gl,0,none⟩) (2 ^ m) (2 ^ m)):=h1.cell 1
   have c4:w.cell? ⟨gf,4,none⟩=some (.int .i64 ((2 ^ m:Nat):Int)):=h1.cell 4
   have l1:=h3.cell x (by rw [h4.len];exact hx)
   have l2:=h3.cell y (by rw [h4.len];exact hy)
   rw [<- hgi,h4.log i hi,hgi] at l1
   rw [<- hgj,h4.log j hj,hgj] at l2
   have ho:=ord_pos F
   have hq:(i+j)%(2 ^ m-1)<2 ^ m:=Nat.lt_of_lt_of_le (Nat.mod_lt _ ho) (Nat.sub_le _ _)
   have l3:=h2.cell ((i+j)%(2 ^ m-1)) (by rw [exps_len];exact hq)
   rw [exps_get m p _ hq,<- gm_tab F hP,hgi,hgj] at l3
   obtain⟨N,hN⟩:∃ N,2 ^ m=N:=⟨_,rfl⟩
   have hN4:N<=4096:=by rw [<- hN];exact Nat.le_trans (Nat.pow_le_pow_right (by omega) hm) (by decide)
   rw [hN] at c0 c1 c4 l3 hi hj hx hy ho hq
   obtain⟨s,hs⟩:∃ s,(i+j)%(N-1)=s:=⟨_,rfl⟩
   obtain⟨r,hr⟩:∃ r,gm m p x y=r:=⟨_,rfl⟩
   have ht:Int.tmod ((i:Int)+(j:Int)) ((N:Int)-1)=(s:Int):=by
    rw [show (i:Int)+(j:Int)=((i+j:Nat):Int) by omega,show (N:Int)-1=((N-1:Nat):Int) by omega,tmod_nat,hs]
   rw [hs] at l3 hq
   rw [hr] at l3 ⊢
   have bx:((x:Int)==0)=false:=by simp;omega
   have by_:((y:Int)==0)=false:=by simp;omega
   have hne:¬ ((N:Int)-1=0):=by omega
   clear h1 h2 h3 h4 hN hs hr hgi hgj F hP
   go_enter Tryz.func186,Tryz.ntmps186
   go_wp2
   go_quiet (fail)
   go_wp2
   go_ret
   exact⟨rfl,_,rfl⟩
theorem take_snoc (xs:List Nat)(i:Nat)(h:i<xs.length):xs.take (i+1)=xs.take i++[xs.getD i 0]:=by
 rw [List.take_add_one,List.getElem?_eq_getElem h]
 simp [List.getD,List.getElem?_eq_getElem h]
theorem pev_take {m p:Nat}(F:Fld m p)(r:Nat)(hr:r<2 ^ m)(xs:List Nat)(hl:AllLt m xs)(i:Nat)(hi:i<xs.length):pev m p r (xs.take (i+1))=gm m p r (pev m p r (xs.take i)) ^^^ xs.getD i 0:=by
 have h1:AllLt m (xs.take i):=fun x hx=>hl x (List.mem_of_mem_take hx)
 have h2:xs.getD i 0<2 ^ m:=hl _ (by simp [List.getD,List.getElem?_eq_getElem hi])
 rw [take_snoc xs i hi,pev_snoc F r hr _ _ h1 h2,gm_comm F _ r (pev_lt F r _ h1) hr]
theorem getD_lt {m:Nat}{xs:List Nat}(hl:AllLt m xs)(i:Nat):xs.getD i 0<2 ^ m:=by
 by_cases h:i<xs.length
 ·exact hl _ (by simp [List.getD,List.getElem?_eq_getElem h])
 ·simp [List.getD,List.getElem?_eq_none (Nat.le_of_not_lt h),Nat.two_pow_pos]
theorem pev_nought {m p:Nat}(F:Fld m p)(xs:List Nat)(hl:AllLt m xs)(h0:xs≠[]):pev m p 0 xs=xs.getD (xs.length-1) 0:=by
 have hpos:0<xs.length:=by cases xs with | nil=>exact absurd rfl h0 | cons _ _=>simp
 have:=pev_take F 0 (Nat.two_pow_pos m) xs hl (xs.length-1) (by omega)
 rw [show xs.length-1+1=xs.length by omega,List.take_length,gm_zero_left,Nat.zero_xor] at this
 exact this
theorem polyCoef (w:World)(q gf k:Nat)(xs:List Nat)(h:PolyAt w q gf xs)(hk:k<xs.length)(hl:xs.length<=100000):Calls Tryz.prog 185 #[.pointer (some ⟨q,0,none⟩),.int .i64 (k:Int)] w fun e w'=>e=.returned (.int .i64 ((xs.getD (xs.length-1-k) 0:Nat):Int))/\Drawn w w':=by
 obtain⟨g,o,c,h1,h2,h3,h4⟩:=h
 have c1:w.cell? ⟨q,1,none⟩=some (.slice (some ⟨g,o,none⟩) xs.length c):=h1.cell 1
 have k1:=h3.at_ (xs.length-1-k) (by omega)
 obtain⟨v,hv⟩:∃ v,xs.getD (xs.length-1-k) 0=v:=⟨_,rfl⟩
 rw [hv] at k1 ⊢
 obtain⟨n,hn⟩:∃ n,xs.length=n:=⟨_,rfl⟩
 rw [hn] at c1 k1 hk hl h2
 obtain⟨i,hi⟩:∃ i,n-1-k=i:=⟨_,rfl⟩
 rw [hi] at k1
 have hii:(n:Int)-1-(k:Int)=(i:Int):=by omega
 have hin:i<n:=by omega
 clear h1 h3 h4 hv hn hi
 go_enter Tryz.func185,Tryz.ntmps185
 go_wp2
 go_quiet (fail)
 go_wp2
 go_ret
 exact⟨rfl,_,rfl⟩
theorem Drawn.below {w w':World}(h:Drawn w w'):Below w.heap.size w w':=by
 obtain⟨n,rfl⟩:=h
 exact pw_below_drewN (Below.refl _ _) n
theorem Drawn.more {w w':World}(h:Drawn w w')(n:Nat):Drawn w (w'.drewN n):=by
 obtain⟨k,rfl⟩:=h
 exact⟨k+n,by rw [World.drewN_drewN]⟩
theorem Drawn.refl (w:World):Drawn w w:=⟨0,rfl⟩
theorem Drawn.trans {a b c:World}(h:Drawn a b)(k:Drawn b c):Drawn a c:=by
 obtain⟨n,rfl⟩:=k
 exact h.more n
theorem GFAt.drawn {w:World}{gf m p b:Nat}(h:GFAt w gf m p b)(n:Nat):GFAt (w.drewN n) gf m p b:=h.below (pw_below_drewN (Below.refl w.heap.size w) n) (Nat.le_refl _)
theorem PolyAt.drawn {w:World}{q gf:Nat}{xs:List Nat}(h:PolyAt w q gf xs)(n:Nat):PolyAt (w.drewN n) q gf xs:=h.below (pw_below_drewN (Below.refl w.heap.size w) n) (Nat.le_refl _)
set_option maxHeartbeats 1000000 in
theorem polyEval (w:World)(q gf m p b a:Nat)(xs:List Nat)(F:Fld m p)(hP:Prim m p)(hm:m<=12)(hG:GFAt w gf m p b)(h:PolyAt w q gf xs)(hx:AllLt m xs)(ha:a<2 ^ m)(hl:xs.length<=100000) :
  Calls Tryz.prog 175 #[.pointer (some ⟨q,0,none⟩),.int .i64 (a:Int)] w fun e w'=>e=.returned (.int .i64 (pev m p a xs:Int))/\Drawn w w':=by
 obtain⟨N,hN⟩:∃ N,2 ^ m=N:=⟨_,rfl⟩
 have hN4:N<=4096:=by rw [<- hN];exact Nat.le_trans (Nat.pow_le_pow_right (by omega) hm) (by decide)
 have hN2:2<=N:=by rw [<- hN];exact Nat.le_trans (by decide:2<=2 ^ 1) (Nat.pow_le_pow_right (by omega) F.one)
 have hpv:∀ i,pev m p a (xs.take i)<N:=fun i=>by rw [<- hN];exact pev_lt F a _ (fun x hx'=>hx x (List.mem_of_mem_take hx'))
 have hgl:∀ i,xs.getD i 0<N:=fun i=>by rw [<- hN];exact getD_lt hx i
 have hstep:=pev_take F a ha xs hx
 have h0:xs≠[]:=by obtain⟨g,o,c,h1,h2,h3,h4⟩:=h;exact h4
 have hpos:0<xs.length:=by cases hxs:xs with | nil=>exact absurd hxs h0 | cons _ _=>simp
 obtain⟨n,hn⟩:∃ n,xs.length=n:=⟨_,rfl⟩
 by_cases ha0:a=0
 ·have k:=polyCoef w q gf 0 xs h hpos hl
  rw [Nat.sub_zero,<- pev_nought F xs hx h0,<- ha0] at k
  obtain⟨v,hv⟩:∃ v,pev m p a xs=v:=⟨_,rfl⟩
  rw [hv] at k ⊢
  clear hv hstep hpv hgl h hG hx ha hN F hP
  subst ha0
  go_enter Tryz.func175,Tryz.ntmps175
  go_wp2_with (go_at_call 185;refine k.mono ?_;rintro e w' ⟨rfl,hd⟩)
  go_ret
  exact⟨rfl,hd⟩
 ·have HF:=Aside0.mk F
  have HP:=Aside0.mk hP
  have HX:=Aside0.mk hx
  have HG:=Aside0.mk hG
  have HPO:=Aside0.mk h
  have HPV:=Aside0.mk hpv
  have HGL:=Aside0.mk hgl
  have HST:=Aside0.mk hstep
  have HN:=Aside0.mk hN
  have HA:=Aside0.mk ha
  have hall:xs.take n=xs:=by rw [<- hn];exact List.take_length
  have HALL:=Aside0.mk hall
  have HLN:=Aside0.mk hn
  rw [hn] at hpos hl
  have haN:a<N:=by rw [<- hN];exact ha
  obtain⟨g,o,c,h1,h2,h3,h4⟩:=h
  rw [hn] at h1 h2
  have c0:w.cell? ⟨q,0,none⟩=some (.pointer (some ⟨gf,0,none⟩)):=h1.cell 0
  have c1:w.cell? ⟨q,1,none⟩=some (.slice (some ⟨g,o,none⟩) n c):=h1.cell 1
  have HR:=Aside0.mk h3
  have HB1:=Aside0.mk h1
  have hp1:xs.getD 0 0=pev m p a (xs.take 1):=by
   have:=hstep 0 (by omega)
   rw [List.take_zero] at this
   rw [this]
   show _=gm m p a 0 ^^^ _
   rw [gm_zero_right,Nat.zero_xor]
  have HP1:=Aside0.mk hp1
  clear F hP hx hG h1 h3 h4 hpv hgl hstep hN ha hall hn h0 hp1
  by_cases ha1:a=1
  ·subst ha1
   show Calls Tryz.prog 175 #[.pointer (some ⟨q,0,none⟩),.int .i64 1] w _
   go_enter Tryz.func175,Tryz.ntmps175
   go_wp2
   go_loopw [5,22] (fun vr vi wr=>∃ i r:Nat,vi=.int .i64 (i:Int)/\vr=.int .i64 (r:Int)/\i<=n/\r<4096/\Aside0 (r=pev m p 1 (xs.take i))/\wr=w) (fun _ vi _=>(n-intOf vi).toNat)
   case atStart=>exact⟨0,0,rfl,rfl,by omega,by omega,⟨by rfl⟩,by first | rfl | trivial⟩
   case round=>
    obtain⟨i,r,rfl,rfl,hi,hr,HRR,rfl⟩:=hrel
    by_cases hin:i<n
    ·have k1:=HR.out.at_ i (by rw [HLN.out];exact hin)
     obtain⟨x,hx⟩:∃ x,xs.getD i 0=x:=⟨_,rfl⟩
     rw [hx] at k1
     have hxN:x<4096:=by have:=HGL.out i;omega
     have hnew:r ^^^ x=pev m p 1 (xs.take (i+1)):=by
      rw [HST.out i (by rw [HLN.out];exact hin),hx,<- HRR.out,gm_one_left HF.out r (by rw [HN.out,HRR.out];exact HPV.out i)]
     obtain⟨r2,hr2⟩:∃ r2,r ^^^ x=r2:=⟨_,rfl⟩
     have hr2N:r2<4096:=by rw [<- hr2,hnew];have:=HPV.out (i+1);omega
     have ka:=addSub wr r x (by omega) (by omega)
     rw [hr2] at ka hnew
     have HNEW:=Aside0.mk hnew
     clear hx hnew hr2
     go_wp2_with (go_at_call 184;refine ka.mono ?_;rintro e w' ⟨rfl,rfl⟩)
     go_roundw
     case rel=>exact⟨i+1,r2,by go_num,rfl,by omega,by omega,HNEW,by first | rfl | trivial⟩
     case measure=>simp [intOf];omega
    ·have:n=i:=by omega
     subst this
     go_wp2
     go_ret
     have e:pev m p 1 xs=r:=by rw [HRR.out,HALL.out]
     exact⟨by first | (rw [e];done) | (rw [e];rfl),Drawn.refl _⟩
  ·have ba0:((a:Int)==0)=false:=by simp;omega
   have ba1:((a:Int)==1)=false:=by simp;omega
   have k0:=HR.out.at_ 0 (by rw [HLN.out];exact hpos)
   rw [Nat.add_zero,HP1.out] at k0
   obtain⟨r0,hr0⟩:∃ r0,pev m p a (xs.take 1)=r0:=⟨_,rfl⟩
   rw [hr0] at k0
   have HR0:=Aside0.mk hr0
   have hr0N:r0<4096:=by rw [<- hr0];have:=HPV.out 1;omega
   clear hr0
   go_enter Tryz.func175,Tryz.ntmps175
   go_wp2
   go_loopw [8,10] (fun vr vi wr=>∃ i r:Nat,vi=.int .i64 (i:Int)/\vr=.int .i64 (r:Int)/\1<=i/\i<=n/\r<4096/\Aside0 (r=pev m p a (xs.take i))/\Aside0 (Drawn w wr)) (fun _ vi _=>(n-intOf vi).toNat)
   case atStart=>exact⟨1,r0,rfl,rfl,by omega,by omega,by omega,⟨HR0.out.symm⟩,⟨Drawn.refl _⟩⟩
   case round=>
    obtain⟨i,r,rfl,rfl,hi1,hi,hr,HRR,HD⟩:=hrel
    by_cases hin:i<n
    ·have d0:wr.cell? ⟨q,0,none⟩=some (.pointer (some ⟨gf,0,none⟩)):=(HB1.out.below HD.out.below HB1.out.lt).cell 0
     have d1:wr.cell? ⟨q,1,none⟩=some (.slice (some ⟨g,o,none⟩) n c):=(HB1.out.below HD.out.below HB1.out.lt).cell 1
     have k1:=(HR.out.below HD.out.below HR.out.lt).at_ i (by rw [HLN.out];exact hin)
     have hGd:=HG.out.below HD.out.below (Nat.le_refl _)
     have HGD:=Aside0.mk hGd
     obtain⟨x,hx⟩:∃ x,xs.getD i 0=x:=⟨_,rfl⟩
     rw [hx] at k1
     have hxN:x<4096:=by have:=HGL.out i;omega
     have hrN:r<2 ^ m:=by rw [HN.out,HRR.out];exact HPV.out i
     obtain⟨y,hy⟩:∃ y,gm m p a r=y:=⟨_,rfl⟩
     have hyN:y<4096:=by rw [<- hy];have:=gm_lt HF.out a r HA.out;rw [HN.out] at this;omega
     have hnew:y ^^^ x=pev m p a (xs.take (i+1)):=by
      rw [HST.out i (by rw [HLN.out];exact hin),hx,<- HRR.out,hy]
     obtain⟨r2,hr2⟩:∃ r2,y ^^^ x=r2:=⟨_,rfl⟩
     have hr2N:r2<4096:=by rw [<- hr2,hnew];have:=HPV.out (i+1);omega
     have km:=fun k=>gfMul (wr.drewN k) gf m p b a r HF.out HP.out hm (HGD.out.drawn k) HA.out hrN
     have ka:=fun k=>addSub (wr.drewN k) y x (by omega) (by omega)
     rw [hy] at km
     rw [hr2] at ka hnew
     have HNEW:=Aside0.mk hnew
     clear hx hnew hr2 hGd hy hrN c0 c1 k0
     go_wp2
     go_quiet (first
      | (go_at_call 186;exact Calls.quiet_of (km _))
      | (go_at_call 184;exact Calls.quiet_of_same (ka _)))
     clear km ka
     go_wp2
     go_roundw
     case rel=>exact⟨i+1,r2,by go_num,rfl,by omega,by omega,by omega,HNEW,⟨HD.out.more _⟩⟩
     case measure=>simp [intOf];omega
    ·have:n=i:=by omega
     subst this
     go_wp2
     go_ret
     have e:pev m p a xs=r:=by rw [HRR.out,HALL.out]
     exact⟨by first | (rw [e];done) | (rw [e];rfl),HD.out⟩
end Go.Proofs.YtgccjgpdjkhpdaaGreat.B
