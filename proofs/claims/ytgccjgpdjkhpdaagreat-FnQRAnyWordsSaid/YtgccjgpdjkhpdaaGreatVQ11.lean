/-! Own texts of this claim, part 11. -/
namespace Go.Proofs.YtgccjgpdjkhpdaaGreat.B
set_option linter.unusedVariables false
set_option linter.unusedSimpArgs false
structure Fld (m p:Nat):Prop where
 one:1<=m
 lo:2 ^ m<=p
 hi:p<2 ^ (m+1)
section
variable {m p:Nat}
def gl (m p x:Nat):Nat:=(2*x) ^^^ (if x.testBit (m-1) then p else 0)
theorem lt_of_bits (x m:Nat)(h:∀ i,m<=i->x.testBit i=false):x<2 ^ m:=Nat.lt_pow_two_of_testBit x h
theorem bit_of_lt (x m i:Nat)(h:x<2 ^ m)(hi:m<=i):x.testBit i=false:=Nat.testBit_lt_two_pow (Nat.lt_of_lt_of_le h (Nat.pow_le_pow_right (by omega) hi))
theorem xor_lt (x y m:Nat)(hx:x<2 ^ m)(hy:y<2 ^ m):x ^^^ y<2 ^ m:=Nat.xor_lt_two_pow hx hy
theorem two_bit (x i:Nat):(2*x).testBit i=(decide (0<i) && x.testBit (i-1)):=by
 cases i with
 | zero=>simp
 | succ i=>simp [Nat.testBit_succ]
theorem two_xor (x y:Nat):2*(x ^^^ y)=(2*x) ^^^ (2*y):=by
 apply Nat.eq_of_testBit_eq
 intro i
 simp only [Nat.testBit_xor,two_bit]
 cases decide (0<i)<;>simp
theorem xor_left (a b c:Nat):a ^^^ (b ^^^ c)=b ^^^ (a ^^^ c):=by rw [<- Nat.xor_assoc,Nat.xor_comm a b,Nat.xor_assoc]
theorem xor_mid (a b c d:Nat):(a ^^^ b) ^^^ (c ^^^ d)=(a ^^^ c) ^^^ (b ^^^ d):=by
 rw [Nat.xor_assoc,Nat.xor_assoc,xor_left b c d]
theorem gl_add (x y:Nat):gl m p (x ^^^ y)=gl m p x ^^^ gl m p y:=by
 unfold gl
 rw [two_xor,Nat.testBit_xor]
 have hp:∀ a b:Bool,(if (a ^^ b)=true then p else 0)=(if a=true then p else 0) ^^^ (if b=true then p else 0):=by
  intro a b
  cases a<;>cases b<;>simp
 rw [hp,xor_mid]
theorem gl_zero:gl m p 0=0:=by unfold gl;simp
theorem top_bit (F:Fld m p)(i:Nat)(hi:m<=i):p.testBit i=decide (i=m):=by
 by_cases h:i=m
 ·subst h
  rw [decide_eq_true rfl]
  have h1:p=2 ^ i+(p-2 ^ i):=by have:=F.lo;omega
  have h2:p-2 ^ i<2 ^ i:=by have:=F.hi;rw [Nat.pow_succ] at this;omega
  rw [h1,Nat.testBit_two_pow_add_eq,Nat.testBit_lt_two_pow h2];rfl
 ·rw [decide_eq_false h]
  exact bit_of_lt p (m+1) i F.hi (by omega)
theorem gl_lt (F:Fld m p)(x:Nat)(hx:x<2 ^ m):gl m p x<2 ^ m:=by
 apply lt_of_bits
 intro i hi
 have h1:=F.one
 unfold gl
 rw [Nat.testBit_xor,two_bit]
 by_cases hm:i=m
 ·subst hm
  rw [decide_eq_true (by omega),Bool.true_and]
  by_cases hb:x.testBit (i-1)=true
  ·rw [if_pos hb,hb,top_bit F i (Nat.le_refl _)];simp
  ·rw [if_neg hb];simp at hb;simp [hb]
 ·rw [bit_of_lt x m (i-1) hx (by omega)]
  by_cases hb:x.testBit (m-1)=true
  ·rw [if_pos hb,top_bit F i hi];simp [hm]
  ·rw [if_neg hb];simp
def glN (m p:Nat):Nat->Nat->Nat
 | 0,x=>x
 | k+1,x=>gl m p (glN m p k x)
theorem glN_add (k x y:Nat):glN m p k (x ^^^ y)=glN m p k x ^^^ glN m p k y:=by
 induction k with
 | zero=>rfl
 | succ k ih=>rw [glN,ih,gl_add];rfl
theorem glN_zero (k:Nat):glN m p k 0=0:=by
 induction k with
 | zero=>rfl
 | succ k ih=>rw [glN,ih,gl_zero]
theorem glN_lt (F:Fld m p)(k x:Nat)(hx:x<2 ^ m):glN m p k x<2 ^ m:=by
 induction k with
 | zero=>exact hx
 | succ k ih=>exact gl_lt F _ ih
theorem glN_glN (j k x:Nat):glN m p j (glN m p k x)=glN m p (j+k) x:=by
 induction j with
 | zero=>rw [Nat.zero_add];rfl
 | succ j ih=>rw [Nat.succ_add,glN,glN,ih]
theorem glN_gl (k x:Nat):glN m p k (gl m p x)=gl m p (glN m p k x):=by
 have:=glN_glN (m:=m) (p:=p) k 1 x
 exact this
theorem glN_pow (i:Nat)(hi:i<m):glN m p i 1=2 ^ i:=by
 induction i with
 | zero=>rfl
 | succ i ih=>
  rw [glN,ih (by omega),gl,Nat.testBit_two_pow_of_ne (by omega),if_neg (by simp),Nat.xor_zero,Nat.pow_succ,Nat.mul_comm]
def gm' (m p:Nat):Nat->Nat->Nat->Nat
 | 0,_,_=>0
 | k+1,a,b=>gm' m p k a b ^^^ (if b.testBit k then glN m p k a else 0)
def gm (m p a b:Nat):Nat:=gm' m p m a b
theorem gm'_left (k a a' b:Nat):gm' m p k (a ^^^ a') b=gm' m p k a b ^^^ gm' m p k a' b:=by
 induction k with
 | zero=>simp [gm']
 | succ k ih=>
  rw [gm',gm',gm',ih,xor_mid]
  congr 1
  by_cases h:b.testBit k=true
  ·rw [if_pos h,if_pos h,if_pos h,glN_add]
  ·rw [if_neg h,if_neg h,if_neg h];simp
theorem gm'_right (k a b b':Nat):gm' m p k a (b ^^^ b')=gm' m p k a b ^^^ gm' m p k a b':=by
 induction k with
 | zero=>simp [gm']
 | succ k ih=>
  rw [gm',gm',gm',ih,xor_mid,Nat.testBit_xor]
  congr 1
  cases b.testBit k<;>cases b'.testBit k<;>simp
theorem gm_left (a a' b:Nat):gm m p (a ^^^ a') b=gm m p a b ^^^ gm m p a' b:=gm'_left m a a' b
theorem gm_right (a b b':Nat):gm m p a (b ^^^ b')=gm m p a b ^^^ gm m p a b':=gm'_right m a b b'
theorem gm'_lt (F:Fld m p)(k a b:Nat)(ha:a<2 ^ m):gm' m p k a b<2 ^ m:=by
 induction k with
 | zero=>exact Nat.two_pow_pos m
 | succ k ih=>
  rw [gm']
  refine xor_lt _ _ _ ih ?_
  split
  ·exact glN_lt F k a ha
  ·exact Nat.two_pow_pos m
theorem gm_lt (F:Fld m p)(a b:Nat)(ha:a<2 ^ m):gm m p a b<2 ^ m:=gm'_lt F m a b ha
theorem gm'_zero_right (k a:Nat):gm' m p k a 0=0:=by
 induction k with
 | zero=>rfl
 | succ k ih=>rw [gm',ih];simp
theorem gm_zero_right (a:Nat):gm m p a 0=0:=gm'_zero_right m a
theorem gm'_zero_left (k b:Nat):gm' m p k 0 b=0:=by
 induction k with
 | zero=>rfl
 | succ k ih=>rw [gm',ih,glN_zero];simp
theorem gm_zero_left (b:Nat):gm m p 0 b=0:=gm'_zero_left m b
theorem gm'_pow (k a i:Nat):gm' m p k a (2 ^ i)=if i<k then glN m p i a else 0:=by
 induction k with
 | zero=>rfl
 | succ k ih=>
  rw [gm',ih]
  by_cases h:i=k
  ·subst h
   rw [if_neg (by omega),Nat.testBit_two_pow_self,if_pos rfl,if_pos (by omega),Nat.zero_xor]
  ·rw [Nat.testBit_two_pow_of_ne h]
   simp only [Bool.false_eq_true,if_false,Nat.xor_zero]
   by_cases h2:i<k
   ·rw [if_pos h2,if_pos (by omega)]
   ·rw [if_neg h2,if_neg (by omega)]
theorem gm_pow (a i:Nat)(hi:i<m):gm m p a (2 ^ i)=glN m p i a:=by unfold gm;rw [gm'_pow,if_pos hi]
theorem gm_one (F:Fld m p)(a:Nat):gm m p a 1=a:=by have:=gm_pow (p:=p) a 0 (m:=m) F.one;exact this
theorem lin_ext (f g:Nat->Nat)(hf:∀ x y,f (x ^^^ y)=f x ^^^ f y)(hg:∀ x y,g (x ^^^ y)=g x ^^^ g y)(h0:f 0=g 0)(m:Nat)(hp:∀ i,i<m->f (2 ^ i)=g (2 ^ i)):∀ x,x<2 ^ m->f x=g x:=by
 induction m with
 | zero=>intro x hx;have:x=0:=by have:(2:Nat) ^ 0=1:=rfl;omega
         rw [this,h0]
 | succ m ih=>
  intro x hx
  by_cases h:x<2 ^ m
  ·exact ih (fun i hi=>hp i (by omega)) x h
  ·have hx2:x=2 ^ m ^^^ (x ^^^ 2 ^ m):=by rw [Nat.xor_comm x,<- Nat.xor_assoc,Nat.xor_self,Nat.zero_xor]
   have hlow:x ^^^ 2 ^ m<2 ^ m:=by
    apply lt_of_bits
    intro i hi
    rw [Nat.testBit_xor]
    by_cases he:i=m
    ·subst he
     have h1:x=2 ^ i+(x-2 ^ i):=by omega
     have h2:x-2 ^ i<2 ^ i:=by rw [Nat.pow_succ] at hx;omega
     rw [h1,Nat.testBit_two_pow_add_eq,Nat.testBit_lt_two_pow h2,Nat.testBit_two_pow_self];rfl
    ·rw [bit_of_lt x (m+1) i hx (by omega),Nat.testBit_two_pow_of_ne (by omega)];rfl
   rw [hx2,hf,hg,hp m (by omega),ih (fun i hi=>hp i (by omega)) _ hlow]
theorem gm_comm (F:Fld m p)(a b:Nat)(ha:a<2 ^ m)(hb:b<2 ^ m):gm m p a b=gm m p b a:=by
 refine lin_ext (fun x=>gm m p x b) (fun x=>gm m p b x) (fun x y=>gm_left x y b) (fun x y=>gm_right b x y) ?_ m (fun j hj=>?_) a ha
 ·show gm m p 0 b=gm m p b 0
  rw [gm_zero_left,gm_zero_right]
 ·show gm m p (2 ^ j) b=gm m p b (2 ^ j)
  refine lin_ext (fun x=>gm m p (2 ^ j) x) (fun x=>gm m p x (2 ^ j)) (fun x y=>gm_right _ x y) (fun x y=>gm_left x y _) ?_ m (fun i hi=>?_) b hb
  ·show gm m p (2 ^ j) 0=gm m p 0 (2 ^ j)
   rw [gm_zero_left,gm_zero_right]
  ·show gm m p (2 ^ j) (2 ^ i)=gm m p (2 ^ i) (2 ^ j)
   rw [gm_pow _ i hi,gm_pow _ j hj,<- glN_pow (p:=p) j hj,<- glN_pow (p:=p) i hi,glN_glN,glN_glN,Nat.add_comm]
theorem gm'_gl (k a b:Nat):gm' m p k (gl m p a) b=gl m p (gm' m p k a b):=by
 induction k with
 | zero=>rw [gm',gm',gl_zero]
 | succ k ih=>
  rw [gm',gm',ih,gl_add]
  congr 1
  by_cases h:b.testBit k=true
  ·rw [if_pos h,if_pos h,glN_gl]
  ·rw [if_neg h,if_neg h,gl_zero]
theorem gm_gl (a b:Nat):gm m p (gl m p a) b=gl m p (gm m p a b):=gm'_gl m a b
theorem gm_glN (k a b:Nat):gm m p (glN m p k a) b=glN m p k (gm m p a b):=by
 induction k with
 | zero=>rfl
 | succ k ih=>rw [glN,gm_gl,ih];rfl
theorem gm_assoc (F:Fld m p)(a b c:Nat)(ha:a<2 ^ m)(hb:b<2 ^ m)(hc:c<2 ^ m):gm m p (gm m p a b) c=gm m p a (gm m p b c):=by
 refine lin_ext (fun x=>gm m p (gm m p a b) x) (fun x=>gm m p a (gm m p b x)) (fun x y=>gm_right _ x y) (fun x y=>?_) ?_ m (fun k hk=>?_) c hc
 ·show gm m p a (gm m p b (x ^^^ y))=_
  rw [gm_right,gm_right]
 ·show gm m p (gm m p a b) 0=gm m p a (gm m p b 0)
  rw [gm_zero_right,gm_zero_right,gm_zero_right]
 ·show gm m p (gm m p a b) (2 ^ k)=gm m p a (gm m p b (2 ^ k))
  rw [gm_pow _ k hk,gm_pow _ k hk,gm_comm F a _ ha (glN_lt F k b hb),gm_glN,gm_comm F b a hb ha]
end
end Go.Proofs.YtgccjgpdjkhpdaaGreat.B
namespace Go.Proofs.YtgccjgpdjkhpdaaGreat.B
set_option linter.unusedVariables false
set_option linter.unusedSimpArgs false
section
variable {m p:Nat}
def AllLt (m:Nat)(l:List Nat):Prop:=∀ x∈l,x<2 ^ m
def pevF (m p r:Nat):Nat->List Nat->Nat
 | a,[]=>a
 | a,c :: l=>pevF m p r (gm m p a r ^^^ c) l
def pev (m p r:Nat)(l:List Nat):Nat:=pevF m p r 0 l
def gpow (m p r:Nat):Nat->Nat
 | 0=>1
 | n+1=>gm m p (gpow m p r n) r
theorem gpow_lt (F:Fld m p)(r n:Nat)(hr:r<2 ^ m):gpow m p r n<2 ^ m:=by
 induction n with
 | zero=>exact Nat.lt_of_lt_of_le (show 1<2 ^ 1 by decide) (Nat.pow_le_pow_right (by omega) F.one)
 | succ n ih=>exact gm_lt F _ _ ih
theorem pevF_eq (F:Fld m p)(r:Nat)(hr:r<2 ^ m)(l:List Nat):∀ a,a<2 ^ m->AllLt m l->pevF m p r a l=gm m p a (gpow m p r l.length) ^^^ pev m p r l:=by
 induction l with
 | nil=>intro a ha _;show a=gm m p a 1 ^^^ 0;rw [gm_one F,Nat.xor_zero]
 | cons c l ih=>
  intro a ha hl
  have hc:c<2 ^ m:=hl c (by simp)
  have hl2:AllLt m l:=fun x hx=>hl x (by simp [hx])
  have hg:=gpow_lt F r l.length hr
  unfold pev
  rw [pevF,pevF,ih _ (xor_lt _ _ _ (gm_lt F a r ha) hc) hl2,gm_zero_left,Nat.zero_xor,ih c hc hl2,gm_left,Nat.xor_assoc,List.length_cons,gpow,gm_comm F (gpow m p r l.length) r hg hr,<- gm_assoc F a r _ ha hr hg]
theorem pev_append (F:Fld m p)(r:Nat)(hr:r<2 ^ m)(l k:List Nat)(hl:AllLt m l)(hk:AllLt m k):pev m p r (l++k)=gm m p (pev m p r l) (gpow m p r k.length) ^^^ pev m p r k:=by
 have h:∀ (l:List Nat) a,pevF m p r a (l++k)=pevF m p r (pevF m p r a l) k:=by
  intro l
  induction l with
  | nil=>intro a;rfl
  | cons c l ih=>intro a;exact ih _
 have hlt:∀ (l:List Nat) a,a<2 ^ m->AllLt m l->pevF m p r a l<2 ^ m:=by
  intro l
  induction l with
  | nil=>intro a ha _;exact ha
  | cons c l ih=>intro a ha hl;exact ih _ (xor_lt _ _ _ (gm_lt F a r ha) (hl c (by simp))) (fun x hx=>hl x (by simp [hx]))
 unfold pev
 rw [h l 0,pevF_eq F r hr k _ (hlt l 0 (Nat.two_pow_pos m) hl) hk]
 rfl
theorem pev_lt (F:Fld m p)(r:Nat)(l:List Nat)(hl:AllLt m l):pev m p r l<2 ^ m:=by
 have hlt:∀ (l:List Nat) a,a<2 ^ m->AllLt m l->pevF m p r a l<2 ^ m:=by
  intro l
  induction l with
  | nil=>intro a ha _;exact ha
  | cons c l ih=>intro a ha hl;exact ih _ (xor_lt _ _ _ (gm_lt F a r ha) (hl c (by simp))) (fun x hx=>hl x (by simp [hx]))
 exact hlt l 0 (Nat.two_pow_pos m) hl
theorem pev_cons (F:Fld m p)(r:Nat)(hr:r<2 ^ m)(c:Nat)(l:List Nat)(hc:c<2 ^ m)(hl:AllLt m l):pev m p r (c :: l)=gm m p c (gpow m p r l.length) ^^^ pev m p r l:=by
 unfold pev
 rw [pevF,gm_zero_left,Nat.zero_xor]
 exact pevF_eq F r hr l c hc hl
theorem pev_one (r c:Nat):pev m p r [c]=c:=by unfold pev;rw [pevF,pevF,gm_zero_left,Nat.zero_xor]
theorem pev_snoc (F:Fld m p)(r:Nat)(hr:r<2 ^ m)(l:List Nat)(c:Nat)(hl:AllLt m l)(hc:c<2 ^ m):pev m p r (l++[c])=gm m p (pev m p r l) r ^^^ c:=by
 rw [pev_append F r hr l [c] hl (by intro x hx;rw [List.mem_singleton.1 hx];exact hc),pev_one]
 congr 1
 show gm m p _ (gm m p 1 r)=_
 rw [gm_comm F 1 r (gpow_lt F r 0 hr) hr,gm_one F]
theorem pev_xor (F:Fld m p)(r:Nat)(hr:r<2 ^ m):∀ (l k:List Nat),l.length=k.length->AllLt m l->AllLt m k->pev m p r (List.zipWith (· ^^^ ·) l k)=pev m p r l ^^^ pev m p r k:=by
 intro l
 induction l with
 | nil=>intro k h _ _;have:k=[]:=List.eq_nil_of_length_eq_zero h.symm;subst this;simp [pev,pevF]
 | cons a l ih=>
  intro k h hl hk
  cases k with
  | nil=>simp at h
  | cons b k=>
   have ha:a<2 ^ m:=hl a (by simp)
   have hb:b<2 ^ m:=hk b (by simp)
   have hl2:AllLt m l:=fun x hx=>hl x (by simp [hx])
   have hk2:AllLt m k:=fun x hx=>hk x (by simp [hx])
   have h2:l.length=k.length:=by simpa using h
   have hz:AllLt m (List.zipWith (· ^^^ ·) l k):=by
    intro x hx
    obtain⟨i,hi,rfl⟩:=List.mem_iff_getElem.1 hx
    rw [List.getElem_zipWith]
    exact xor_lt _ _ _ (hl2 _ (List.getElem_mem _)) (hk2 _ (List.getElem_mem _))
   rw [List.zipWith_cons_cons,pev_cons F r hr _ _ (xor_lt _ _ _ ha hb) hz,pev_cons F r hr a l ha hl2,pev_cons F r hr b k hb hk2,ih k h2 hl2 hk2,gm_left,List.length_zipWith,<- h2,Nat.min_self,xor_mid]
theorem pev_times (F:Fld m p)(r f:Nat)(hr:r<2 ^ m)(hf:f<2 ^ m):∀ (l:List Nat),AllLt m l->pev m p r (l.map fun x=>gm m p x f)=gm m p (pev m p r l) f:=by
 intro l
 induction l with
 | nil=>intro _;show 0=gm m p 0 f;rw [gm_zero_left]
 | cons a l ih=>
  intro hl
  have ha:a<2 ^ m:=hl a (by simp)
  have hl2:AllLt m l:=fun x hx=>hl x (by simp [hx])
  have hm:AllLt m (l.map fun x=>gm m p x f):=by
   intro x hx
   obtain⟨y,hy,rfl⟩:=List.mem_map.1 hx
   exact gm_lt F y f (hl2 y hy)
  have hg:=gpow_lt F r l.length hr
  rw [List.map_cons,pev_cons F r hr _ _ (gm_lt F a f ha) hm,pev_cons F r hr a l ha hl2,ih hl2,List.length_map,gm_left]
  congr 1
  rw [gm_assoc F a f _ ha hf hg,gm_comm F f _ hf hg,<- gm_assoc F a _ f ha hg hf]
def rstep (m p:Nat)(g s:List Nat)(b:Nat):List Nat:=List.zipWith (· ^^^ ·) (s.tail++[0]) (g.map fun x=>gm m p x (b ^^^ s.headD 0))
theorem rstep_len (g s:List Nat)(b:Nat)(h:s.length=g.length)(h0:0<g.length):(rstep m p g s b).length=g.length:=by
 unfold rstep
 rw [List.length_zipWith,List.length_append,List.length_tail,List.length_map]
 simp;omega
theorem rstep_lt (F:Fld m p)(g s:List Nat)(b:Nat)(hg:AllLt m g)(hs:AllLt m s):AllLt m (rstep m p g s b):=by
 intro x hx
 unfold rstep at hx
 obtain⟨i,hi,rfl⟩:=List.mem_iff_getElem.1 hx
 rw [List.getElem_zipWith]
 refine xor_lt _ _ _ ?_ ?_
 ·have:=List.getElem_mem (l:=s.tail++[0]) (n:=i) (by rw [List.length_zipWith] at hi;omega)
  rcases List.mem_append.1 this with h | h
  ·exact hs _ (List.mem_of_mem_tail h)
  ·rw [List.mem_singleton.1 h];exact Nat.two_pow_pos m
 ·rw [List.getElem_map]
  exact gm_lt F _ _ (hg _ (List.getElem_mem _))
theorem rstep_pev (F:Fld m p)(r:Nat)(hr:r<2 ^ m)(g s:List Nat)(b:Nat)(hb:b<2 ^ m)(hg:AllLt m g)(hs:AllLt m s)(h:s.length=g.length)(h0:0<g.length)(hroot:pev m p r g=gpow m p r g.length) :
  pev m p r (rstep m p g s b)=gm m p (pev m p r s) r ^^^ gm m p b (gpow m p r g.length):=by
 cases s with
 | nil=>simp at h;omega
 | cons a t=>
  have ha:a<2 ^ m:=hs a (by simp)
  have ht:AllLt m t:=fun x hx=>hs x (by simp [hx])
  have hf:b ^^^ a<2 ^ m:=xor_lt _ _ _ hb ha
  have hgr:=gpow_lt F r g.length hr
  have ht0:AllLt m (t++[0]):=by
   intro x hx
   rcases List.mem_append.1 hx with h | h
   ·exact ht x h
   ·rw [List.mem_singleton.1 h];exact Nat.two_pow_pos m
  have hgm:AllLt m (g.map fun x=>gm m p x (b ^^^ a)):=by
   intro x hx
   obtain⟨y,hy,rfl⟩:=List.mem_map.1 hx
   exact gm_lt F y _ (hg y hy)
  have htl:t.length+1=g.length:=by simpa using h
  have hgt:=gpow_lt F r t.length hr
  have hpt:=pev_lt F r t ht
  show pev m p r (List.zipWith (· ^^^ ·) (t++[0]) (g.map fun x=>gm m p x (b ^^^ a)))=_
  rw [pev_xor F r hr _ _ (by rw [List.length_append,List.length_map];simpa using htl) ht0 hgm,pev_snoc F r hr t 0 ht (Nat.two_pow_pos m),Nat.xor_zero,pev_times F r _ hr hf g hg,hroot,pev_cons F r hr a t ha ht,gm_left]
  rw [gm_assoc F a _ r ha hgt hr]
  have e:gm m p (gpow m p r t.length) r=gpow m p r g.length:=by rw [<- htl];rfl
  rw [e,gm_comm F _ _ hgr hf,gm_left]
  rw [Nat.xor_comm (gm m p a _) (gm m p (pev m p r t) r),Nat.xor_assoc,Nat.xor_comm (gm m p b _) (gm m p a _)]
def rest (m p:Nat)(g:List Nat):List Nat->List Nat->List Nat
 | s,[]=>s
 | s,b :: l=>rest m p g (rstep m p g s b) l
theorem rest_facts (F:Fld m p)(r:Nat)(hr:r<2 ^ m)(g:List Nat)(hg:AllLt m g)(h0:0<g.length)(hroot:pev m p r g=gpow m p r g.length) :
  ∀ (l s pre:List Nat),AllLt m l->AllLt m s->AllLt m pre->s.length=g.length->pev m p r s=gm m p (pev m p r pre) (gpow m p r g.length)->
   pev m p r (rest m p g s l)=gm m p (pev m p r (pre++l)) (gpow m p r g.length)/\(rest m p g s l).length=g.length/\AllLt m (rest m p g s l):=by
 have hgr:=gpow_lt F r g.length hr
 intro l
 induction l with
 | nil=>intro s pre _ hs _ hl he;rw [List.append_nil];exact⟨he,hl,hs⟩
 | cons b l ih=>
  intro s pre hbl hs hp hl he
  have hb:b<2 ^ m:=hbl b (by simp)
  have hpp:=pev_lt F r pre hp
  have hpb:AllLt m (pre++[b]):=by
   intro x hx
   rcases List.mem_append.1 hx with h | h
   ·exact hp x h
   ·rw [List.mem_singleton.1 h];exact hb
  have:=ih (rstep m p g s b) (pre++[b]) (fun x hx=>hbl x (by simp [hx])) (rstep_lt F g s b hg hs) hpb (rstep_len g s b hl h0) (by
   rw [rstep_pev F r hr g s b hb hg hs hl h0 hroot,he,pev_snoc F r hr pre b hp hb,gm_left]
   congr 1
   rw [gm_assoc F _ _ r hpp hgr hr,gm_comm F _ r hgr hr,<- gm_assoc F _ r _ hpp hr hgr])
  rw [List.append_assoc] at this
  exact this
theorem code_root (F:Fld m p)(r:Nat)(hr:r<2 ^ m)(g data:List Nat)(hg:AllLt m g)(h0:0<g.length)(hd:AllLt m data)(hroot:pev m p r g=gpow m p r g.length) :
  pev m p r (data++rest m p g (List.replicate g.length 0) data)=0:=by
 have hz:AllLt m (List.replicate g.length 0):=by intro x hx;rw [List.eq_of_mem_replicate hx];exact Nat.two_pow_pos m
 have hz0:∀ n,pev m p r (List.replicate n 0)=0:=by
  intro n
  unfold pev
  induction n with
  | zero=>rfl
  | succ n ih=>rw [List.replicate_succ,pevF,gm_zero_left,Nat.xor_zero];exact ih
 obtain⟨h1,h2,h3⟩:=rest_facts F r hr g hg h0 hroot data (List.replicate g.length 0) [] hd hz (by intro x hx;cases hx) (by simp) (by rw [hz0];show 0=gm m p 0 _;rw [gm_zero_left])
 rw [pev_append F r hr data _ hd h3,h1,h2,List.nil_append,Nat.xor_self]
def gstep (m p:Nat)(s:List Nat)(root:Nat):List Nat:=List.zipWith (· ^^^ ·) (s.map fun x=>gm m p x root) (s.tail++[0])
theorem gstep_lt (F:Fld m p)(s:List Nat)(root:Nat)(hs:AllLt m s):AllLt m (gstep m p s root):=by
 intro x hx
 unfold gstep at hx
 obtain⟨i,hi,rfl⟩:=List.mem_iff_getElem.1 hx
 rw [List.getElem_zipWith]
 refine xor_lt _ _ _ ?_ ?_
 ·rw [List.getElem_map]
  exact gm_lt F _ _ (hs _ (List.getElem_mem _))
 ·have:=List.getElem_mem (l:=s.tail++[0]) (n:=i) (by rw [List.length_zipWith] at hi;omega)
  rcases List.mem_append.1 this with h | h
  ·exact hs _ (List.mem_of_mem_tail h)
  ·rw [List.mem_singleton.1 h];exact Nat.two_pow_pos m
theorem gstep_len (s:List Nat)(root:Nat)(h0:0<s.length):(gstep m p s root).length=s.length:=by
 unfold gstep
 rw [List.length_zipWith,List.length_append,List.length_tail,List.length_map]
 simp;omega
theorem gstep_pev (F:Fld m p)(x root a:Nat)(t:List Nat)(hx:x<2 ^ m)(hroot:root<2 ^ m)(ha:a<2 ^ m)(ht:AllLt m t) :
  pev m p x (gstep m p (a :: t) root)=gm m p (pev m p x (a :: t)) (x ^^^ root) ^^^ gm m p a (gpow m p x (t.length+1)):=by
 have hs:AllLt m (a :: t):=by
  intro y hy
  rcases List.mem_cons.1 hy with h | h
  ·rw [h];exact ha
  ·exact ht y h
 have ht0:AllLt m (t++[0]):=by
  intro y hy
  rcases List.mem_append.1 hy with h | h
  ·exact ht y h
  ·rw [List.mem_singleton.1 h];exact Nat.two_pow_pos m
 have hsm:AllLt m ((a :: t).map fun y=>gm m p y root):=by
  intro y hy
  obtain⟨z,hz,rfl⟩:=List.mem_map.1 hy
  exact gm_lt F z _ (hs z hz)
 have hg:=gpow_lt F x t.length hx
 have hpt:=pev_lt F x t ht
 show pev m p x (List.zipWith (· ^^^ ·) ((a :: t).map fun y=>gm m p y root) (t++[0]))=_
 rw [pev_xor F x hx _ _ (by simp) hsm ht0,pev_times F x root hx hroot _ hs,pev_snoc F x hx t 0 ht (Nat.two_pow_pos m),Nat.xor_zero,gm_right,pev_cons F x hx a t ha ht]
 have e:gm m p (gm m p a (gpow m p x t.length)) x=gm m p a (gm m p (gpow m p x t.length) x):=gm_assoc F a _ x ha hg hx
 rw [show gpow m p x (t.length+1)=gm m p (gpow m p x t.length) x from rfl,gm_left (gm m p a (gpow m p x t.length)) (pev m p x t) root,gm_left (gm m p a (gpow m p x t.length)) (pev m p x t) x,e]
 generalize gm m p a (gm m p (gpow m p x t.length) x)=A
 generalize gm m p (pev m p x t) x=B
 generalize gm m p (gm m p a (gpow m p x t.length)) root ^^^ gm m p (pev m p x t) root=C
 rw [Nat.xor_comm (A ^^^ B) C,Nat.xor_assoc C,Nat.xor_comm (A ^^^ B) A,<- Nat.xor_assoc A A B,Nat.xor_self,Nat.zero_xor]
def gens (m p:Nat):List Nat->List Nat->List Nat
 | s,[]=>s
 | s,r :: l=>gens m p (gstep m p s r) l
theorem gens_lt (F:Fld m p):∀ (rs s:List Nat),AllLt m s->AllLt m (gens m p s rs):=by
 intro rs
 induction rs with
 | nil=>intro s hs;exact hs
 | cons r l ih=>intro s hs;exact ih _ (gstep_lt F s r hs)
theorem gens_len:∀ (rs s:List Nat),0<s.length->(gens m p s rs).length=s.length:=by
 intro rs
 induction rs with
 | nil=>intro s _;rfl
 | cons r l ih=>intro s hs;rw [gens,ih _ (by rw [gstep_len s r hs];exact hs),gstep_len s r hs]
theorem gstep_lead (k:Nat)(u:List Nat)(root:Nat):∃ u',gstep m p (List.replicate (k+1) 0++1 :: u) root=List.replicate k 0++1 :: u'/\u'.length=u.length+1:=by
 induction k with
 | zero=>
  refine⟨List.zipWith (· ^^^ ·) ((1 :: u).map fun x=>gm m p x root) (u++[0]),?_,by simp⟩
  unfold gstep
  simp only [List.replicate_succ,List.replicate_zero,List.nil_append,List.cons_append,List.map_cons,List.tail_cons,List.zipWith_cons_cons,gm_zero_left,Nat.zero_xor]
 | succ k ih=>
  obtain⟨u',h,hl⟩:=ih
  refine⟨u',?_,hl⟩
  have e:gstep m p (List.replicate (k+1+1) 0++1 :: u) root=0 :: gstep m p (List.replicate (k+1) 0++1 :: u) root:=by
   unfold gstep
   simp only [List.replicate_succ,List.cons_append,List.map_cons,List.tail_cons,List.zipWith_cons_cons,gm_zero_left,Nat.zero_xor]
  rw [e,h]
  rfl
def facs (m p x:Nat):Nat->List Nat->Nat
 | a,[]=>a
 | a,r :: l=>facs m p x (gm m p a (x ^^^ r)) l
theorem facs_zero (x:Nat):∀ (rs:List Nat),facs m p x 0 rs=0:=by
 intro rs
 induction rs with
 | nil=>rfl
 | cons r l ih=>rw [facs,gm_zero_left];exact ih
theorem facs_root (x:Nat):∀ (rs:List Nat) (a:Nat),x∈rs->facs m p x a rs=0:=by
 intro rs
 induction rs with
 | nil=>intro a h;cases h
 | cons r l ih=>
  intro a h
  rcases List.mem_cons.1 h with h | h
  ·subst h;rw [facs,Nat.xor_self,gm_zero_right,facs_zero]
  ·rw [facs];exact ih _ h
theorem gens_pev (F:Fld m p)(x:Nat)(hx:x<2 ^ m):∀ (rs:List Nat) (k:Nat) (u:List Nat),AllLt m rs->AllLt m u->rs.length=k->
  pev m p x (gens m p (List.replicate k 0++1 :: u) rs)=facs m p x (pev m p x (List.replicate k 0++1 :: u)) rs/\∃ u',gens m p (List.replicate k 0++1 :: u) rs=1 :: u'/\AllLt m u'/\u'.length=u.length+k:=by
 have h1:1<2 ^ m:=Nat.lt_of_lt_of_le (show 1<2 ^ 1 by decide) (Nat.pow_le_pow_right (by omega) F.one)
 intro rs
 induction rs with
 | nil=>intro k u _ hu hk;have:k=0:=hk.symm;subst this;exact⟨rfl,u,rfl,hu,rfl⟩
 | cons r l ih=>
  intro k u hr hu hk
  obtain⟨k,rfl⟩:∃ j,k=j+1:=⟨k-1,by simp at hk;omega⟩
  have hs:AllLt m (List.replicate (k+1) 0++1 :: u):=by
   intro y hy
   rcases List.mem_append.1 hy with h | h
   ·rw [List.eq_of_mem_replicate h];exact Nat.two_pow_pos m
   ·rcases List.mem_cons.1 h with h | h
    ·rw [h];exact h1
    ·exact hu y h
  have ht:AllLt m (List.replicate k 0++1 :: u):=fun y hy=>hs y (by rw [List.replicate_succ,List.cons_append];exact List.mem_cons_of_mem _ hy)
  obtain⟨u',he,hl⟩:=gstep_lead (m:=m) (p:=p) k u r
  have hlt:=gstep_lt F _ r hs
  rw [he] at hlt
  have hu':AllLt m u':=fun y hy=>hlt y (List.mem_append_right _ (List.mem_cons_of_mem _ hy))
  obtain⟨h2,v,h3,h4,h5⟩:=ih k u' (fun y hy=>hr y (by simp [hy])) hu' (by simpa using hk)
  have hp:pev m p x (List.replicate k 0++1 :: u')=gm m p (pev m p x (List.replicate (k+1) 0++1 :: u)) (x ^^^ r):=by
   rw [<- he]
   have:=gstep_pev F x r 0 (List.replicate k 0++1 :: u) hx (hr r (by simp)) (Nat.two_pow_pos m) ht
   rw [gm_zero_left,Nat.xor_zero] at this
   exact this
  refine⟨?_,v,?_,h4,by omega⟩
  ·rw [gens,he,h2,hp];rfl
  ·rw [gens,he,h3]
theorem gens_root (F:Fld m p)(rs:List Nat)(r x:Nat)(hrs:AllLt m rs)(hr:r<2 ^ m)(hx:x<2 ^ m)(hmem:x∈rs\/x=r) :
  pev m p x (gens m p (List.replicate rs.length 0++[1]) (rs++[r]))=gpow m p x (rs.length+1)/\AllLt m (gens m p (List.replicate rs.length 0++[1]) (rs++[r]))/\(gens m p (List.replicate rs.length 0++[1]) (rs++[r])).length=rs.length+1:=by
 have h1:1<2 ^ m:=Nat.lt_of_lt_of_le (show 1<2 ^ 1 by decide) (Nat.pow_le_pow_right (by omega) F.one)
 obtain⟨h2,u,h3,h4,h5⟩:=gens_pev F x hx rs rs.length [] hrs (by intro y hy;cases hy) rfl
 have happ:∀ (l s:List Nat),gens m p s (l++[r])=gstep m p (gens m p s l) r:=by
  intro l
  induction l with
  | nil=>intro s;rfl
  | cons a l ih=>intro s;exact ih _
 have hul:u.length=rs.length:=by simpa using h5
 rw [happ,h3]
 have hu1:AllLt m (1 :: u):=by
  intro y hy
  rcases List.mem_cons.1 hy with h | h
  ·rw [h];exact h1
  ·exact h4 y h
 refine⟨?_,gstep_lt F _ r hu1,by rw [gstep_len _ _ (by simp),List.length_cons,hul]⟩
 have hg:=gpow_lt F x (u.length+1) hx
 rw [gstep_pev F x r 1 u hx hr h1 h4,hul,gm_comm F 1 _ h1 (gpow_lt F x (rs.length+1) hx),gm_one F]
 have hz:gm m p (pev m p x (1 :: u)) (x ^^^ r)=0:=by
  rcases hmem with h | h
  ·rw [<- h3,h2,facs_root x rs _ h,gm_zero_left]
  ·rw [h,Nat.xor_self,gm_zero_right]
 rw [hz,Nat.zero_xor]
end
end Go.Proofs.YtgccjgpdjkhpdaaGreat.B
namespace Go.Proofs.YtgccjgpdjkhpdaaGreat.B
set_option linter.unusedVariables false
set_option linter.unusedSimpArgs false
section
variable {m p:Nat}
def gx (m p k:Nat):Nat:=glN m p k 1
theorem gx_lt (F:Fld m p)(k:Nat):gx m p k<2 ^ m:=glN_lt F k 1 (Nat.lt_of_lt_of_le (show 1<2 ^ 1 by decide) (Nat.pow_le_pow_right (by omega) F.one))
theorem gx_succ (k:Nat):gx m p (k+1)=gl m p (gx m p k):=rfl
theorem gm_one_left (F:Fld m p)(b:Nat)(hb:b<2 ^ m):gm m p 1 b=b:=by rw [gm_comm F 1 b (gx_lt F 0) hb,gm_one F]
theorem gx_add (F:Fld m p)(i j:Nat):gm m p (gx m p i) (gx m p j)=gx m p (i+j):=by
 unfold gx
 rw [gm_glN,gm_one_left F (glN m p j 1) (gx_lt F j),glN_glN]
theorem gx_period (n:Nat)(h:gx m p n=1)(k:Nat):gx m p (k+n)=gx m p k:=by
 unfold gx at h ⊢
 rw [<- glN_glN,h]
theorem gx_mod (n:Nat)(h0:0<n)(h:gx m p n=1)(k:Nat):gx m p (k%n)=gx m p k:=by
 have hq:∀ q r,gx m p (r+n*q)=gx m p r:=by
  intro q
  induction q with
  | zero=>intro r;rfl
  | succ q ih=>intro r;rw [Nat.mul_succ,<- Nat.add_assoc,gx_period n h,ih]
 have:=hq (k/n) (k%n)
 rw [Nat.mod_add_div] at this
 exact this.symm
structure Prim (m p:Nat):Prop where
 whole:gx m p (2 ^ m-1)=1
 least:∀ d,0<d->d<2 ^ m-1->gx m p d≠1
theorem ord_pos (F:Fld m p):0<2 ^ m-1:=by
 have:2 ^ 1<=2 ^ m:=Nat.pow_le_pow_right (by omega) F.one
 omega
theorem gx_ne (F:Fld m p)(hP:Prim m p)(k:Nat):gx m p k≠0:=by
 intro h
 have hz:∀ j,gx m p (k+j)=0:=by
  intro j
  rw [<- gx_add F,h,gm_zero_left]
 have hn:=ord_pos F
 have h2:=hz ((2 ^ m-1)*(k+1)-k)
 have hle:k<=(2 ^ m-1)*(k+1):=Nat.le_trans (Nat.le_succ k) (Nat.le_mul_of_pos_left _ hn)
 rw [Nat.add_sub_cancel' hle,<- gx_mod (2 ^ m-1) hn hP.whole,Nat.mul_mod_right] at h2
 have:gx m p 0=1:=rfl
 omega
theorem gx_inj (F:Fld m p)(hP:Prim m p)(i j:Nat)(hi:i<2 ^ m-1)(hj:j<2 ^ m-1)(he:gx m p i=gx m p j):i=j:=by
 have key:∀ a b,a<b->b<2 ^ m-1->gx m p a=gx m p b->False:=by
  intro a b hab hb h
  have h1:gx m p (a+(2 ^ m-1-a))=gx m p (b+(2 ^ m-1-a)):=by rw [<- gx_add F,<- gx_add F,h]
  rw [show a+(2 ^ m-1-a)=2 ^ m-1 by omega,show b+(2 ^ m-1-a)=(b-a)+(2 ^ m-1) by omega,gx_period _ hP.whole,hP.whole] at h1
  exact hP.least (b-a) (by omega) (by omega) h1.symm
 rcases Nat.lt_trichotomy i j with h | h | h
 ·exact absurd he (fun he=>key i j h hj he)
 ·exact h
 ·exact absurd he.symm (fun he=>key j i h hi he)
theorem gx_log (F:Fld m p)(hP:Prim m p)(a:Nat)(h0:a≠0)(ha:a<2 ^ m):∃ i,i<2 ^ m-1/\gx m p i=a:=by
 have hnd:((List.range (2 ^ m-1)).map (gx m p)).Nodup:=by
  refine List.pairwise_iff_getElem.2 ?_
  intro i j hi hj hij he
  simp only [List.length_map,List.length_range] at hi hj
  simp only [List.getElem_map,List.getElem_range] at he
  have:=gx_inj F hP i j hi hj he
  omega
 by_cases hm:a∈(List.range (2 ^ m-1)).map (gx m p)
 ·obtain⟨i,hi,he⟩:=List.mem_map.1 hm
  exact⟨i,List.mem_range.1 hi,he⟩
 ·have h2:(a :: (List.range (2 ^ m-1)).map (gx m p)).Nodup:=List.nodup_cons.2 ⟨hm,hnd⟩
  have hin:∀ x,x≠0->x<2 ^ m->x∈(List.range (2 ^ m-1)).map (·+1):=by
   intro x hx hl
   exact List.mem_map.2 ⟨x-1,List.mem_range.2 (by omega),by show x-1+1=x;omega⟩
  have hsub:(a :: (List.range (2 ^ m-1)).map (gx m p)) ⊆ (List.range (2 ^ m-1)).map (·+1):=by
   intro x hx
   rcases List.mem_cons.1 hx with h | h
   ·rw [h];exact hin a h0 ha
   ·obtain⟨i,_,rfl⟩:=List.mem_map.1 h
    exact hin _ (gx_ne F hP i) (gx_lt F i)
  have:=List.Nodup.length_le_of_subset h2 hsub
  rw [List.length_cons,List.length_map,List.length_map,List.length_range] at this
  omega
theorem gm_tab (F:Fld m p)(hP:Prim m p)(i j:Nat):gm m p (gx m p i) (gx m p j)=gx m p ((i+j)%(2 ^ m-1)):=by rw [gx_add F,gx_mod _ (ord_pos F) hP.whole]
def ordB (m p:Nat):Nat->Nat->Bool
 | 0,x=>x==1
 | k+1,x=>x != 1 && ordB m p k (gl m p x)
theorem prim_of (m p n:Nat)(hn:2 ^ m-1=n+1)(h:ordB m p n (gx m p 1)=true):Prim m p:=by
 have H:∀ (k i:Nat),ordB m p k (gx m p i)=true->gx m p (i+k)=1/\∀ d,i<=d->d<i+k->gx m p d≠1:=by
  intro k
  induction k with
  | zero=>intro i h;exact⟨by simpa [ordB] using h,fun d h1 h2=>by omega⟩
  | succ k ih=>
   intro i h
   rw [ordB,Bool.and_eq_true,<- gx_succ] at h
   obtain⟨h1,h2⟩:=h
   obtain⟨h3,h4⟩:=ih (i+1) h2
   refine⟨by rw [<- h3];congr 1;omega,fun d h5 h6=>?_⟩
   by_cases he:d=i
   ·subst he;simpa using h1
   ·exact h4 d (by omega) (by omega)
 obtain⟨h1,h2⟩:=H n 1 h
 exact⟨by rw [hn,Nat.add_comm];exact h1,fun d h3 h4=>h2 d h3 (by omega)⟩
theorem fld (m p:Nat)(h1:1<=m)(h2:2 ^ m<=p)(h3:p<2 ^ (m+1)):Fld m p:=⟨h1,h2,h3⟩
theorem fQR:Fld 8 285:=fld 8 285 (by decide) (by decide) (by decide)
theorem pQR:Prim 8 285:=prim_of 8 285 254 rfl (by decide +kernel)
end
end Go.Proofs.YtgccjgpdjkhpdaaGreat.B
