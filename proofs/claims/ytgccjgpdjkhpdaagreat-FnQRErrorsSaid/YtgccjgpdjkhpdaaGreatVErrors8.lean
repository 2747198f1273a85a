open List renaming replicate→Mw,zipWith→MB,length_map→MC,getElem_mem→MF,range→MG,length_zipWith→MK,replicate_succ→ML,getElem_zipWith→MO,zipWith_cons_cons→MP
open Nat renaming two_pow_pos→Mx,xor_assoc→My,zero_xor→Mz,xor_zero→MA,pow_le_pow_right→MD,xor_comm→ME,lt_of_lt_of_le→MH,testBit_xor→MI,xor_self→MJ,testBit_lt_two_pow→MM,testBit_two_pow_of_ne→MN
/-! Own texts of this claim, part 8. -/
namespace Go.Proofs.YtgccjgpdjkhpdaaGreat.B
set_option linter.unusedVariables false
set_option linter.unusedSimpArgs false
structure aG (m p:Nat):Prop where
 one:1<=m
 lo:2 ^ m<=p
 hi:p<2 ^ (m+1)
section
variable {m p:Nat}
def gl (m p x:Nat):Nat:=(2*x) ^^^ (if x.testBit (m-1) then p else 0)
theorem AN (x m:Nat)(h:∀ i,m<=i->x.testBit i=false):x<2 ^ m:=Nat.lt_pow_two_of_testBit x h
theorem uK (x m i:Nat)(h:x<2 ^ m)(hi:m<=i):x.testBit i=false:=MM (MH h (MD (by omega) hi))
theorem fZ (x y m:Nat)(hx:x<2 ^ m)(hy:y<2 ^ m):x ^^^ y<2 ^ m:=Nat.xor_lt_two_pow hx hy
theorem AO (x i:Nat):(2*x).testBit i=(decide (0<i) && x.testBit (i-1)):=by
 cases i with
 | zero=>simp
 | succ i=>simp [Nat.testBit_succ]
theorem LJ (x y:Nat):2*(x ^^^ y)=(2*x) ^^^ (2*y):=by
 apply Nat.eq_of_testBit_eq;intro i;simp only [MI,AO];cases decide (0<i)<;>simp
theorem LK (a b c:Nat):a ^^^ (b ^^^ c)=b ^^^ (a ^^^ c):=by rw [<- My,ME a b,My]
theorem si (a b c d:Nat):(a ^^^ b) ^^^ (c ^^^ d)=(a ^^^ c) ^^^ (b ^^^ d):=by
 rw [My,My,LK b c d]
theorem uM (x y:Nat):gl m p (x ^^^ y)=gl m p x ^^^ gl m p y:=by
 unfold gl;rw [LJ,MI];have hp:∀ a b:Bool,(if (a ^^ b)=true then p else 0)=(if a=true then p else 0) ^^^ (if b=true then p else 0):=by
  intro a b;cases a<;>cases b<;>simp
 rw [hp,si]
theorem pB:gl m p 0=0:=by unfold gl;simp
theorem AP (F:aG m p)(i:Nat)(hi:m<=i):p.testBit i=decide (i=m):=by
 by_cases h:i=m;rotate_left
 ·rw [decide_eq_false h];exact uK p (m+1) i F.hi (by omega)
 subst h;rw [decide_eq_true rfl];have h1:p=2 ^ i+(p-2 ^ i):=by have:=F.lo;omega
 have h2:p-2 ^ i<2 ^ i:=by have:=F.hi;rw [Nat.pow_succ] at this;omega
 rw [h1,Nat.testBit_two_pow_add_eq,MM h2];rfl
theorem AQ (F:aG m p)(x:Nat)(hx:x<2 ^ m):gl m p x<2 ^ m:=by
 apply AN;intro i hi;have h1:=F.one;unfold gl;rw [MI,AO];by_cases hm:i=m;rotate_left
 ·rw [uK x m (i-1) hx (by omega)];by_cases hb:x.testBit (m-1)=true
  ·rw [if_pos hb,AP F i hi];simp [hm]
  rw [if_neg hb];simp
 subst hm;rw [decide_eq_true (by omega),Bool.true_and];by_cases hb:x.testBit (i-1)=true
 ·rw [if_pos hb,hb,AP F i (Nat.le_refl _)];simp
 rw [if_neg hb];simp at hb;simp [hb]
def dj (m p:Nat):Nat->Nat->Nat
 | 0,x=>x
 | k+1,x=>gl m p (dj m p k x)
theorem LL (k x y:Nat):dj m p k (x ^^^ y)=dj m p k x ^^^ dj m p k y:=by
 induction k with
 | zero=>rfl
 | succ k ih=>rw [dj,ih,uM];rfl
theorem LM (k:Nat):dj m p k 0=0:=by
 induction k with
 | zero=>rfl
 | succ k ih=>rw [dj,ih,pB]
theorem uN (F:aG m p)(k x:Nat)(hx:x<2 ^ m):dj m p k x<2 ^ m:=by
 induction k with
 | zero=>exact hx
 | succ k ih=>exact AQ F _ ih
theorem pC (j k x:Nat):dj m p j (dj m p k x)=dj m p (j+k) x:=by
 induction j with
 | zero=>rw [Nat.zero_add];rfl
 | succ j ih=>rw [Nat.succ_add,dj,dj,ih]
theorem LN (k x:Nat):dj m p k (gl m p x)=gl m p (dj m p k x):=by
 have:=pC (m:=m) (p:=p) k 1 x;exact this
theorem AR (i:Nat)(hi:i<m):dj m p i 1=2 ^ i:=by
 induction i with
 | zero=>rfl
 | succ i ih=>
  rw [dj,ih (by omega),gl,MN (by omega),if_neg (by simp),MA,Nat.pow_succ,Nat.mul_comm]
def bN (m p:Nat):Nat->Nat->Nat->Nat
 | 0,_,_=>0
 | k+1,a,b=>bN m p k a b ^^^ (if b.testBit k then dj m p k a else 0)
def gm (m p a b:Nat):Nat:=bN m p m a b
theorem LO (k a a' b:Nat):bN m p k (a ^^^ a') b=bN m p k a b ^^^ bN m p k a' b:=by
 induction k with
 | zero=>simp [bN]
 | succ k ih=>
  rw [bN,bN,bN,ih,si];congr 1;by_cases h:b.testBit k=true
  ·rw [if_pos h,if_pos h,if_pos h,LL]
  rw [if_neg h,if_neg h,if_neg h];simp
theorem LP (k a b b':Nat):bN m p k a (b ^^^ b')=bN m p k a b ^^^ bN m p k a b':=by
 induction k with
 | zero=>simp [bN]
 | succ k ih=>
  rw [bN,bN,bN,ih,si,MI];congr 1;cases b.testBit k<;>cases b'.testBit k<;>simp
theorem jK (a a' b:Nat):gm m p (a ^^^ a') b=gm m p a b ^^^ gm m p a' b:=LO m a a' b
theorem mS (a b b':Nat):gm m p a (b ^^^ b')=gm m p a b ^^^ gm m p a b':=LP m a b b'
theorem AU (F:aG m p)(k a b:Nat)(ha:a<2 ^ m):bN m p k a b<2 ^ m:=by
 induction k with
 | zero=>exact Mx m
 | succ k ih=>
  rw [bN];refine fZ _ _ _ ih ?_
  split
  ·exact uN F k a ha
  exact Mx m
theorem cD (F:aG m p)(a b:Nat)(ha:a<2 ^ m):gm m p a b<2 ^ m:=AU F m a b ha
theorem LQ (k a:Nat):bN m p k a 0=0:=by
 induction k with
 | zero=>rfl
 | succ k ih=>rw [bN,ih];simp
theorem ko (a:Nat):gm m p a 0=0:=LQ m a
theorem LR (k b:Nat):bN m p k 0 b=0:=by
 induction k with
 | zero=>rfl
 | succ k ih=>rw [bN,ih,LM];simp
theorem fh (b:Nat):gm m p 0 b=0:=LR m b
theorem LS (k a i:Nat):bN m p k a (2 ^ i)=if i<k then dj m p i a else 0:=by
 induction k with
 | zero=>rfl
 | succ k ih=>
  rw [bN,ih];by_cases h:i=k
  ·subst h;rw [if_neg (by omega),Nat.testBit_two_pow_self,if_pos rfl,if_pos (by omega),Mz]
  rw [MN h];simp only [Bool.false_eq_true,if_false,MA];by_cases h2:i<k
  ·rw [if_pos h2,if_pos (by omega)]
  rw [if_neg h2,if_neg (by omega)]
theorem pD (a i:Nat)(hi:i<m):gm m p a (2 ^ i)=dj m p i a:=by unfold gm;rw [LS,if_pos hi]
theorem pE (F:aG m p)(a:Nat):gm m p a 1=a:=by have:=pD (p:=p) a 0 (m:=m) F.one;exact this
theorem uO (f g:Nat->Nat)(hf:∀ x y,f (x ^^^ y)=f x ^^^ f y)(hg:∀ x y,g (x ^^^ y)=g x ^^^ g y)(h0:f 0=g 0)(m:Nat)(hp:∀ i,i<m->f (2 ^ i)=g (2 ^ i)):∀ x,x<2 ^ m->f x=g x:=by
 induction m with
 | zero=>intro x hx;have:x=0:=by have:(2:Nat) ^ 0=1:=rfl;omega
         rw [this,h0]
 | succ m ih=>
  intro x hx;by_cases h:x<2 ^ m
  ·exact ih (fun i hi=>hp i (by omega)) x h
  have hx2:x=2 ^ m ^^^ (x ^^^ 2 ^ m):=by rw [ME x,<- My,MJ,Mz]
  have hlow:x ^^^ 2 ^ m<2 ^ m:=by
   apply AN;intro i hi;rw [MI];by_cases he:i=m;rotate_left
   ·rw [uK x (m+1) i hx (by omega),MN (by omega)];rfl
   subst he;have h1:x=2 ^ i+(x-2 ^ i):=by omega
   have h2:x-2 ^ i<2 ^ i:=by rw [Nat.pow_succ] at hx;omega
   rw [h1,Nat.testBit_two_pow_add_eq,MM h2,Nat.testBit_two_pow_self];rfl
  rw [hx2,hf,hg,hp m (by omega),ih (fun i hi=>hp i (by omega)) _ hlow]
theorem jL (F:aG m p)(a b:Nat)(ha:a<2 ^ m)(hb:b<2 ^ m):gm m p a b=gm m p b a:=by
 refine uO (fun x=>gm m p x b) (fun x=>gm m p b x) (fun x y=>jK x y b) (fun x y=>mS b x y) ?_ m (fun j hj=>?_) a ha
 ·show gm m p 0 b=gm m p b 0;rw [fh,ko]
 show gm m p (2 ^ j) b=gm m p b (2 ^ j);refine uO (fun x=>gm m p (2 ^ j) x) (fun x=>gm m p x (2 ^ j)) (fun x y=>mS _ x y) (fun x y=>jK x y _) ?_ m (fun i hi=>?_) b hb
 ·show gm m p (2 ^ j) 0=gm m p 0 (2 ^ j);rw [fh,ko]
 show gm m p (2 ^ j) (2 ^ i)=gm m p (2 ^ i) (2 ^ j);rw [pD _ i hi,pD _ j hj,<- AR (p:=p) j hj,<- AR (p:=p) i hi,pC,pC,Nat.add_comm]
theorem LT (k a b:Nat):bN m p k (gl m p a) b=gl m p (bN m p k a b):=by
 induction k with
 | zero=>rw [bN,bN,pB]
 | succ k ih=>
  rw [bN,bN,ih,uM];congr 1;by_cases h:b.testBit k=true
  ·rw [if_pos h,if_pos h,LN]
  rw [if_neg h,if_neg h,pB]
theorem LU (a b:Nat):gm m p (gl m p a) b=gl m p (gm m p a b):=LT m a b
theorem AV (k a b:Nat):gm m p (dj m p k a) b=dj m p k (gm m p a b):=by
 induction k with
 | zero=>rfl
 | succ k ih=>rw [dj,LU,ih];rfl
theorem me (F:aG m p)(a b c:Nat)(ha:a<2 ^ m)(hb:b<2 ^ m)(hc:c<2 ^ m):gm m p (gm m p a b) c=gm m p a (gm m p b c):=by
 refine uO (fun x=>gm m p (gm m p a b) x) (fun x=>gm m p a (gm m p b x)) (fun x y=>mS _ x y) (fun x y=>?_) ?_ m (fun k hk=>?_) c hc
 ·show gm m p a (gm m p b (x ^^^ y))=_;rw [mS,mS]
 ·show gm m p (gm m p a b) 0=gm m p a (gm m p b 0);rw [ko,ko,ko]
 show gm m p (gm m p a b) (2 ^ k)=gm m p a (gm m p b (2 ^ k));rw [pD _ k hk,pD _ k hk,jL F a _ ha (uN F k b hb),AV,jL F b a hb ha]
end
end Go.Proofs.YtgccjgpdjkhpdaaGreat.B
namespace Go.Proofs.YtgccjgpdjkhpdaaGreat.B
set_option linter.unusedVariables false
set_option linter.unusedSimpArgs false
section
variable {m p:Nat}
def ab (m:Nat)(l:List Nat):Prop:=∀ x∈l,x<2 ^ m
def gI (m p r:Nat):Nat->List Nat->Nat
 | a,[]=>a
 | a,c :: l=>gI m p r (gm m p a r ^^^ c) l
def ao (m p r:Nat)(l:List Nat):Nat:=gI m p r 0 l
def dk (m p r:Nat):Nat->Nat
 | 0=>1
 | n+1=>gm m p (dk m p r n) r
theorem je (F:aG m p)(r n:Nat)(hr:r<2 ^ m):dk m p r n<2 ^ m:=by
 induction n with
 | zero=>exact MH (show 1<2 ^ 1 by decide) (MD (by omega) F.one)
 | succ n ih=>exact cD F _ _ ih
theorem AW (F:aG m p)(r:Nat)(hr:r<2 ^ m)(l:List Nat):∀ a,a<2 ^ m->ab m l->gI m p r a l=gm m p a (dk m p r l.length) ^^^ ao m p r l:=by
 induction l with
 | nil=>intro a ha _;show a=gm m p a 1 ^^^ 0;rw [pE F,MA]
 | cons c l ih=>
  intro a ha hl;have hc:c<2 ^ m:=hl c (by simp);have hl2:ab m l:=fun x hx=>hl x (by simp [hx])
  have hg:=je F r l.length hr;unfold ao;rw [gI,gI,ih _ (fZ _ _ _ (cD F a r ha) hc) hl2,fh,Mz,ih c hc hl2,jK,My,List.length_cons,dk,jL F (dk m p r l.length) r hg hr,<- me F a r _ ha hr hg]
theorem AX (F:aG m p)(r:Nat)(hr:r<2 ^ m)(l k:List Nat)(hl:ab m l)(hk:ab m k):ao m p r (l++k)=gm m p (ao m p r l) (dk m p r k.length) ^^^ ao m p r k:=by
 have h:∀ (l:List Nat) a,gI m p r a (l++k)=gI m p r (gI m p r a l) k:=by
  intro l
  induction l with
  | nil=>intro a;rfl
  | cons c l ih=>intro a;exact ih _
 have hlt:∀ (l:List Nat) a,a<2 ^ m->ab m l->gI m p r a l<2 ^ m:=by
  intro l
  induction l with
  | nil=>intro a ha _;exact ha
  | cons c l ih=>intro a ha hl;exact ih _ (fZ _ _ _ (cD F a r ha) (hl c (by simp))) (fun x hx=>hl x (by simp [hx]))
 unfold ao;rw [h l 0,AW F r hr k _ (hlt l 0 (Mx m) hl) hk];rfl
theorem jf (F:aG m p)(r:Nat)(l:List Nat)(hl:ab m l):ao m p r l<2 ^ m:=by
 have hlt:∀ (l:List Nat) a,a<2 ^ m->ab m l->gI m p r a l<2 ^ m:=by
  intro l
  induction l with
  | nil=>intro a ha _;exact ha
  | cons c l ih=>intro a ha hl;exact ih _ (fZ _ _ _ (cD F a r ha) (hl c (by simp))) (fun x hx=>hl x (by simp [hx]))
 exact hlt l 0 (Mx m) hl
theorem ly (F:aG m p)(r:Nat)(hr:r<2 ^ m)(c:Nat)(l:List Nat)(hc:c<2 ^ m)(hl:ab m l):ao m p r (c :: l)=gm m p c (dk m p r l.length) ^^^ ao m p r l:=by
 unfold ao;rw [gI,fh,Mz];exact AW F r hr l c hc hl
theorem LV (r c:Nat):ao m p r [c]=c:=by unfold ao;rw [gI,gI,fh,Mz]
theorem sj (F:aG m p)(r:Nat)(hr:r<2 ^ m)(l:List Nat)(c:Nat)(hl:ab m l)(hc:c<2 ^ m):ao m p r (l++[c])=gm m p (ao m p r l) r ^^^ c:=by
 rw [AX F r hr l [c] hl (by intro x hx;rw [List.mem_singleton.1 hx];exact hc),LV]
 congr 1;show gm m p _ (gm m p 1 r)=_;rw [jL F 1 r (je F r 0 hr) hr,pE F]
theorem uP (F:aG m p)(r:Nat)(hr:r<2 ^ m):∀ (l k:List Nat),l.length=k.length->ab m l->ab m k->ao m p r (MB (· ^^^ ·) l k)=ao m p r l ^^^ ao m p r k:=by
 intro l
 induction l with
 | nil=>intro k h _ _;have:k=[]:=List.eq_nil_of_length_eq_zero h.symm;subst this;simp [ao,gI]
 | cons a l ih=>
  intro k h hl hk;cases k with
  | nil=>simp at h
  | cons b k=>
   have ha:a<2 ^ m:=hl a (by simp);have hb:b<2 ^ m:=hk b (by simp);have hl2:ab m l:=fun x hx=>hl x (by simp [hx])
   have hk2:ab m k:=fun x hx=>hk x (by simp [hx])
   have h2:l.length=k.length:=by simpa using h
   have hz:ab m (MB (· ^^^ ·) l k):=by
    intro x hx;obtain⟨i,hi,rfl⟩:=List.mem_iff_getElem.1 hx;rw [MO];exact fZ _ _ _ (hl2 _ (MF _)) (hk2 _ (MF _))
   rw [MP,ly F r hr _ _ (fZ _ _ _ ha hb) hz,ly F r hr a l ha hl2,ly F r hr b k hb hk2,ih k h2 hl2 hk2,jK,MK,<- h2,Nat.min_self,si]
theorem AY (F:aG m p)(r f:Nat)(hr:r<2 ^ m)(hf:f<2 ^ m):∀ (l:List Nat),ab m l->ao m p r (l.map fun x=>gm m p x f)=gm m p (ao m p r l) f:=by
 intro l
 induction l with
 | nil=>intro _;show 0=gm m p 0 f;rw [fh]
 | cons a l ih=>
  intro hl;have ha:a<2 ^ m:=hl a (by simp);have hl2:ab m l:=fun x hx=>hl x (by simp [hx])
  have hm:ab m (l.map fun x=>gm m p x f):=by
   intro x hx;obtain⟨y,hy,rfl⟩:=List.mem_map.1 hx;exact cD F y f (hl2 y hy)
  have hg:=je F r l.length hr;rw [List.map_cons,ly F r hr _ _ (cD F a f ha) hm,ly F r hr a l ha hl2,ih hl2,MC,jK];congr 1;rw [me F a f _ ha hf hg,jL F f _ hf hg,<- me F a _ f ha hg hf]
def iT (m p:Nat)(g s:List Nat)(b:Nat):List Nat:=MB (· ^^^ ·) (s.tail++[0]) (g.map fun x=>gm m p x (b ^^^ s.headD 0))
theorem sk (g s:List Nat)(b:Nat)(h:s.length=g.length)(h0:0<g.length):(iT m p g s b).length=g.length:=by
 unfold iT;rw [MK,List.length_append,List.length_tail,MC];simp;omega
theorem AZ (F:aG m p)(g s:List Nat)(b:Nat)(hg:ab m g)(hs:ab m s):ab m (iT m p g s b):=by
 intro x hx;unfold iT at hx;obtain⟨i,hi,rfl⟩:=List.mem_iff_getElem.1 hx;rw [MO];refine fZ _ _ _ ?_ ?_;rotate_left
 ·rw [List.getElem_map];exact cD F _ _ (hg _ (MF _))
 have:=MF (l:=s.tail++[0]) (n:=i) (by rw [MK] at hi;omega)
 rcases List.mem_append.1 this with h | h
 ·exact hs _ (List.mem_of_mem_tail h)
 rw [List.mem_singleton.1 h];exact Mx m
theorem LW (F:aG m p)(r:Nat)(hr:r<2 ^ m)(g s:List Nat)(b:Nat)(hb:b<2 ^ m)(hg:ab m g)(hs:ab m s)(h:s.length=g.length)(h0:0<g.length)(hroot:ao m p r g=dk m p r g.length) :
  ao m p r (iT m p g s b)=gm m p (ao m p r s) r ^^^ gm m p b (dk m p r g.length):=by
 cases s with
 | nil=>simp at h;omega
 | cons a t=>
  have ha:a<2 ^ m:=hs a (by simp);have ht:ab m t:=fun x hx=>hs x (by simp [hx])
  have hf:b ^^^ a<2 ^ m:=fZ _ _ _ hb ha;have hgr:=je F r g.length hr;have ht0:ab m (t++[0]):=by
   intro x hx;rcases List.mem_append.1 hx with h | h
   ·exact ht x h
   rw [List.mem_singleton.1 h];exact Mx m
  have hgm:ab m (g.map fun x=>gm m p x (b ^^^ a)):=by
   intro x hx;obtain⟨y,hy,rfl⟩:=List.mem_map.1 hx;exact cD F y _ (hg y hy)
  have htl:t.length+1=g.length:=by simpa using h
  have hgt:=je F r t.length hr;have hpt:=jf F r t ht;show ao m p r (MB (· ^^^ ·) (t++[0]) (g.map fun x=>gm m p x (b ^^^ a)))=_;rw [uP F r hr _ _ (by rw [List.length_append,MC];simpa using htl) ht0 hgm,sj F r hr t 0 ht (Mx m),MA,AY F r _ hr hf g hg,hroot,ly F r hr a t ha ht,jK]
  rw [me F a _ r ha hgt hr];have e:gm m p (dk m p r t.length) r=dk m p r g.length:=by rw [<- htl];rfl
  rw [e,jL F _ _ hgr hf,jK];rw [ME (gm m p a _) (gm m p (ao m p r t) r),My,ME (gm m p b _) (gm m p a _)]
def rest (m p:Nat)(g:List Nat):List Nat->List Nat->List Nat
 | s,[]=>s
 | s,b :: l=>rest m p g (iT m p g s b) l
theorem LX (F:aG m p)(r:Nat)(hr:r<2 ^ m)(g:List Nat)(hg:ab m g)(h0:0<g.length)(hroot:ao m p r g=dk m p r g.length) :
  ∀ (l s pre:List Nat),ab m l->ab m s->ab m pre->s.length=g.length->ao m p r s=gm m p (ao m p r pre) (dk m p r g.length)->
   ao m p r (rest m p g s l)=gm m p (ao m p r (pre++l)) (dk m p r g.length)/\(rest m p g s l).length=g.length/\ab m (rest m p g s l):=by
 have hgr:=je F r g.length hr;intro l
 induction l with
 | nil=>intro s pre _ hs _ hl he;rw [List.append_nil];exact⟨he,hl,hs⟩
 | cons b l ih=>
  intro s pre hbl hs hp hl he;have hb:b<2 ^ m:=hbl b (by simp);have hpp:=jf F r pre hp;have hpb:ab m (pre++[b]):=by
   intro x hx;rcases List.mem_append.1 hx with h | h
   ·exact hp x h
   rw [List.mem_singleton.1 h];exact hb
  have:=ih (iT m p g s b) (pre++[b]) (fun x hx=>hbl x (by simp [hx])) (AZ F g s b hg hs) hpb (sk g s b hl h0) (by
   rw [LW F r hr g s b hb hg hs hl h0 hroot,he,sj F r hr pre b hp hb,jK];congr 1;rw [me F _ _ r hpp hgr hr,jL F _ r hgr hr,<- me F _ r _ hpp hr hgr])
  rw [List.append_assoc] at this;exact this
theorem LZ (F:aG m p)(r:Nat)(hr:r<2 ^ m)(g data:List Nat)(hg:ab m g)(h0:0<g.length)(hd:ab m data)(hroot:ao m p r g=dk m p r g.length) :
  ao m p r (data++rest m p g (Mw g.length 0) data)=0:=by
 have hz:ab m (Mw g.length 0):=by intro x hx;rw [List.eq_of_mem_replicate hx];exact Mx m
 have hz0:∀ n,ao m p r (Mw n 0)=0:=by
  intro n;unfold ao
  induction n with
  | zero=>rfl
  | succ n ih=>rw [ML,gI,fh,MA];exact ih
 obtain⟨h1,h2,h3⟩:=LX F r hr g hg h0 hroot data (Mw g.length 0) [] hd hz (by intro x hx;cases hx) (by simp) (by rw [hz0];show 0=gm m p 0 _;rw [fh])
 rw [AX F r hr data _ hd h3,h1,h2,List.nil_append,MJ]
def fy (m p:Nat)(s:List Nat)(root:Nat):List Nat:=MB (· ^^^ ·) (s.map fun x=>gm m p x root) (s.tail++[0])
theorem uQ (F:aG m p)(s:List Nat)(root:Nat)(hs:ab m s):ab m (fy m p s root):=by
 intro x hx;unfold fy at hx;obtain⟨i,hi,rfl⟩:=List.mem_iff_getElem.1 hx;rw [MO];refine fZ _ _ _ ?_ ?_
 ·rw [List.getElem_map];exact cD F _ _ (hs _ (MF _))
 have:=MF (l:=s.tail++[0]) (n:=i) (by rw [MK] at hi;omega)
 rcases List.mem_append.1 this with h | h
 ·exact hs _ (List.mem_of_mem_tail h)
 rw [List.mem_singleton.1 h];exact Mx m
theorem pF (s:List Nat)(root:Nat)(h0:0<s.length):(fy m p s root).length=s.length:=by
 unfold fy;rw [MK,List.length_append,List.length_tail,MC];simp;omega
theorem A8 (F:aG m p)(x root a:Nat)(t:List Nat)(hx:x<2 ^ m)(hroot:root<2 ^ m)(ha:a<2 ^ m)(ht:ab m t) :
  ao m p x (fy m p (a :: t) root)=gm m p (ao m p x (a :: t)) (x ^^^ root) ^^^ gm m p a (dk m p x (t.length+1)):=by
 have hs:ab m (a :: t):=by
  intro y hy;rcases List.mem_cons.1 hy with h | h
  ·rw [h];exact ha
  exact ht y h
 have ht0:ab m (t++[0]):=by
  intro y hy;rcases List.mem_append.1 hy with h | h
  ·exact ht y h
  rw [List.mem_singleton.1 h];exact Mx m
 have hsm:ab m ((a :: t).map fun y=>gm m p y root):=by
  intro y hy;obtain⟨z,hz,rfl⟩:=List.mem_map.1 hy;exact cD F z _ (hs z hz)
 have hg:=je F x t.length hx;have hpt:=jf F x t ht;show ao m p x (MB (· ^^^ ·) ((a :: t).map fun y=>gm m p y root) (t++[0]))=_;rw [uP F x hx _ _ (by simp) hsm ht0,AY F x root hx hroot _ hs,sj F x hx t 0 ht (Mx m),MA,mS,ly F x hx a t ha ht];have e:gm m p (gm m p a (dk m p x t.length)) x=gm m p a (gm m p (dk m p x t.length) x):=me F a _ x ha hg hx;rw [show dk m p x (t.length+1)=gm m p (dk m p x t.length) x from rfl,jK (gm m p a (dk m p x t.length)) (ao m p x t) root,jK (gm m p a (dk m p x t.length)) (ao m p x t) x,e];generalize gm m p a (gm m p (dk m p x t.length) x)=A;generalize gm m p (ao m p x t) x=B;generalize gm m p (gm m p a (dk m p x t.length)) root ^^^ gm m p (ao m p x t) root=C;rw [ME (A ^^^ B) C,My C,ME (A ^^^ B) A,<- My A A B,MJ,Mz]
def ga (m p:Nat):List Nat->List Nat->List Nat
 | s,[]=>s
 | s,r :: l=>ga m p (fy m p s r) l
theorem L0 (F:aG m p):∀ (rs s:List Nat),ab m s->ab m (ga m p s rs):=by
 intro rs
 induction rs with
 | nil=>intro s hs;exact hs
 | cons r l ih=>intro s hs;exact ih _ (uQ F s r hs)
theorem L1:∀ (rs s:List Nat),0<s.length->(ga m p s rs).length=s.length:=by
 intro rs
 induction rs with
 | nil=>intro s _;rfl
 | cons r l ih=>intro s hs;rw [ga,ih _ (by rw [pF s r hs];exact hs),pF s r hs]
theorem L3 (k:Nat)(u:List Nat)(root:Nat):∃ u',fy m p (Mw (k+1) 0++1 :: u) root=Mw k 0++1 :: u'/\u'.length=u.length+1:=by
 induction k with
 | zero=>
  refine⟨MB (· ^^^ ·) ((1 :: u).map fun x=>gm m p x root) (u++[0]),?_,by simp⟩;unfold fy;simp only [ML,List.replicate_zero,List.nil_append,List.cons_append,List.map_cons,List.tail_cons,MP,fh,Mz]
 | succ k ih=>
  obtain⟨u',h,hl⟩:=ih;refine⟨u',?_,hl⟩;have e:fy m p (Mw (k+1+1) 0++1 :: u) root=0 :: fy m p (Mw (k+1) 0++1 :: u) root:=by
   unfold fy;simp only [ML,List.cons_append,List.map_cons,List.tail_cons,MP,fh,Mz]
  rw [e,h];rfl
def mT (m p x:Nat):Nat->List Nat->Nat
 | a,[]=>a
 | a,r :: l=>mT m p x (gm m p a (x ^^^ r)) l
theorem L4 (x:Nat):∀ (rs:List Nat),mT m p x 0 rs=0:=by
 intro rs
 induction rs with
 | nil=>rfl
 | cons r l ih=>rw [mT,fh];exact ih
theorem L5 (x:Nat):∀ (rs:List Nat) (a:Nat),x∈rs->mT m p x a rs=0:=by
 intro rs
 induction rs with
 | nil=>intro a h;cases h
 | cons r l ih=>
  intro a h;rcases List.mem_cons.1 h with h | h
  ·subst h;rw [mT,MJ,ko,L4]
  rw [mT];exact ih _ h
theorem L6 (F:aG m p)(x:Nat)(hx:x<2 ^ m):∀ (rs:List Nat) (k:Nat) (u:List Nat),ab m rs->ab m u->rs.length=k->
  ao m p x (ga m p (Mw k 0++1 :: u) rs)=mT m p x (ao m p x (Mw k 0++1 :: u)) rs/\∃ u',ga m p (Mw k 0++1 :: u) rs=1 :: u'/\ab m u'/\u'.length=u.length+k:=by
 have h1:1<2 ^ m:=MH (show 1<2 ^ 1 by decide) (MD (by omega) F.one);intro rs
 induction rs with
 | nil=>intro k u _ hu hk;have:k=0:=hk.symm;subst this;exact⟨rfl,u,rfl,hu,rfl⟩
 | cons r l ih=>
  intro k u hr hu hk;obtain⟨k,rfl⟩:∃ j,k=j+1:=⟨k-1,by simp at hk;omega⟩
  have hs:ab m (Mw (k+1) 0++1 :: u):=by
   intro y hy;rcases List.mem_append.1 hy with h | h
   ·rw [List.eq_of_mem_replicate h];exact Mx m
   rcases List.mem_cons.1 h with h | h
   ·rw [h];exact h1
   exact hu y h
  have ht:ab m (Mw k 0++1 :: u):=fun y hy=>hs y (by rw [ML,List.cons_append];exact List.mem_cons_of_mem _ hy)
  obtain⟨u',he,hl⟩:=L3 (m:=m) (p:=p) k u r;have hlt:=uQ F _ r hs;rw [he] at hlt;have hu':ab m u':=fun y hy=>hlt y (List.mem_append_right _ (List.mem_cons_of_mem _ hy))
  obtain⟨h2,v,h3,h4,h5⟩:=ih k u' (fun y hy=>hr y (by simp [hy])) hu' (by simpa using hk);have hp:ao m p x (Mw k 0++1 :: u')=gm m p (ao m p x (Mw (k+1) 0++1 :: u)) (x ^^^ r):=by
   rw [<- he];have:=A8 F x r 0 (Mw k 0++1 :: u) hx (hr r (by simp)) (Mx m) ht;rw [fh,MA] at this;exact this
  refine⟨?_,v,?_,h4,by omega⟩
  ·rw [ga,he,h2,hp];rfl
  rw [ga,he,h3]
theorem L7 (F:aG m p)(rs:List Nat)(r x:Nat)(hrs:ab m rs)(hr:r<2 ^ m)(hx:x<2 ^ m)(hmem:x∈rs\/x=r) :
  ao m p x (ga m p (Mw rs.length 0++[1]) (rs++[r]))=dk m p x (rs.length+1)/\ab m (ga m p (Mw rs.length 0++[1]) (rs++[r]))/\(ga m p (Mw rs.length 0++[1]) (rs++[r])).length=rs.length+1:=by
 have h1:1<2 ^ m:=MH (show 1<2 ^ 1 by decide) (MD (by omega) F.one);obtain⟨h2,u,h3,h4,h5⟩:=L6 F x hx rs rs.length [] hrs (by intro y hy;cases hy) rfl
 have happ:∀ (l s:List Nat),ga m p s (l++[r])=fy m p (ga m p s l) r:=by
  intro l
  induction l with
  | nil=>intro s;rfl
  | cons a l ih=>intro s;exact ih _
 have hul:u.length=rs.length:=by simpa using h5
 rw [happ,h3];have hu1:ab m (1 :: u):=by
  intro y hy;rcases List.mem_cons.1 hy with h | h
  ·rw [h];exact h1
  exact h4 y h
 refine⟨?_,uQ F _ r hu1,by rw [pF _ _ (by simp),List.length_cons,hul]⟩;have hg:=je F x (u.length+1) hx;rw [A8 F x r 1 u hx hr h1 h4,hul,jL F 1 _ h1 (je F x (rs.length+1) hx),pE F];have hz:gm m p (ao m p x (1 :: u)) (x ^^^ r)=0:=by
  rcases hmem with h | h
  ·rw [<- h3,h2,L5 x rs _ h,fh]
  rw [h,MJ,ko]
 rw [hz,Mz]
end
end Go.Proofs.YtgccjgpdjkhpdaaGreat.B
namespace Go.Proofs.YtgccjgpdjkhpdaaGreat.B
set_option linter.unusedVariables false
set_option linter.unusedSimpArgs false
section
variable {m p:Nat}
def gx (m p k:Nat):Nat:=dj m p k 1
theorem dm (F:aG m p)(k:Nat):gx m p k<2 ^ m:=uN F k 1 (MH (show 1<2 ^ 1 by decide) (MD (by omega) F.one))
theorem A9 (k:Nat):gx m p (k+1)=gl m p (gx m p k):=rfl
theorem Ba (F:aG m p)(b:Nat)(hb:b<2 ^ m):gm m p 1 b=b:=by rw [jL F 1 b (dm F 0) hb,pE F]
theorem lz (F:aG m p)(i j:Nat):gm m p (gx m p i) (gx m p j)=gx m p (i+j):=by
 unfold gx;rw [AV,Ba F (dj m p j 1) (dm F j),pC]
theorem Bb (n:Nat)(h:gx m p n=1)(k:Nat):gx m p (k+n)=gx m p k:=by
 unfold gx at h ⊢;rw [<- pC,h]
theorem Bc (n:Nat)(h0:0<n)(h:gx m p n=1)(k:Nat):gx m p (k%n)=gx m p k:=by
 have hq:∀ q r,gx m p (r+n*q)=gx m p r:=by
  intro q
  induction q with
  | zero=>intro r;rfl
  | succ q ih=>intro r;rw [Nat.mul_succ,<- Nat.add_assoc,Bb n h,ih]
 have:=hq (k/n) (k%n);rw [Nat.mod_add_div] at this;exact this.symm
structure eA (m p:Nat):Prop where
 whole:gx m p (2 ^ m-1)=1
 least:∀ d,0<d->d<2 ^ m-1->gx m p d≠1
theorem uR (F:aG m p):0<2 ^ m-1:=by
 have:2 ^ 1<=2 ^ m:=MD (by omega) F.one;omega
theorem pG (F:aG m p)(hP:eA m p)(k:Nat):gx m p k≠0:=by
 intro h;have hz:∀ j,gx m p (k+j)=0:=by
  intro j;rw [<- lz F,h,fh]
 have hn:=uR F;have h2:=hz ((2 ^ m-1)*(k+1)-k);have hle:k<=(2 ^ m-1)*(k+1):=Nat.le_trans (Nat.le_succ k) (Nat.le_mul_of_pos_left _ hn);rw [Nat.add_sub_cancel' hle,<- Bc (2 ^ m-1) hn hP.whole,Nat.mul_mod_right] at h2;have:gx m p 0=1:=rfl;omega
theorem sm (F:aG m p)(hP:eA m p)(i j:Nat)(hi:i<2 ^ m-1)(hj:j<2 ^ m-1)(he:gx m p i=gx m p j):i=j:=by
 have key:∀ a b,a<b->b<2 ^ m-1->gx m p a=gx m p b->False:=by
  intro a b hab hb h;have h1:gx m p (a+(2 ^ m-1-a))=gx m p (b+(2 ^ m-1-a)):=by rw [<- lz F,<- lz F,h]
  rw [show a+(2 ^ m-1-a)=2 ^ m-1 by omega,show b+(2 ^ m-1-a)=(b-a)+(2 ^ m-1) by omega,Bb _ hP.whole,hP.whole] at h1;exact hP.least (b-a) (by omega) (by omega) h1.symm
 rcases Nat.lt_trichotomy i j with h | h | h
 ·exact absurd he (fun he=>key i j h hj he)
 ·exact h
 exact absurd he.symm (fun he=>key j i h hi he)
theorem oe (F:aG m p)(hP:eA m p)(a:Nat)(h0:a≠0)(ha:a<2 ^ m):∃ i,i<2 ^ m-1/\gx m p i=a:=by
 have hnd:((MG (2 ^ m-1)).map (gx m p)).Nodup:=by
  refine List.pairwise_iff_getElem.2 ?_;intro i j hi hj hij he;simp only [MC,List.length_range] at hi hj;simp only [List.getElem_map,List.getElem_range] at he;have:=sm F hP i j hi hj he;omega
 by_cases hm:a∈(MG (2 ^ m-1)).map (gx m p)
 ·obtain⟨i,hi,he⟩:=List.mem_map.1 hm;exact⟨i,List.mem_range.1 hi,he⟩
 have h2:(a :: (MG (2 ^ m-1)).map (gx m p)).Nodup:=List.nodup_cons.2 ⟨hm,hnd⟩;have hin:∀ x,x≠0->x<2 ^ m->x∈(MG (2 ^ m-1)).map (·+1):=by
  intro x hx hl;exact List.mem_map.2 ⟨x-1,List.mem_range.2 (by omega),by show x-1+1=x;omega⟩
 have hsub:(a :: (MG (2 ^ m-1)).map (gx m p)) ⊆ (MG (2 ^ m-1)).map (·+1):=by
  intro x hx;rcases List.mem_cons.1 hx with h | h
  ·rw [h];exact hin a h0 ha
  obtain⟨i,_,rfl⟩:=List.mem_map.1 h;exact hin _ (pG F hP i) (dm F i)
 have:=List.Nodup.length_le_of_subset h2 hsub;rw [List.length_cons,MC,MC,List.length_range] at this;omega
theorem L8 (F:aG m p)(hP:eA m p)(a b:Nat)(h0:a≠0)(h1:b≠0)(ha:a<2 ^ m)(hb:b<2 ^ m):gm m p a b≠0:=by
 obtain⟨i,_,rfl⟩:=oe F hP a h0 ha;obtain⟨j,_,rfl⟩:=oe F hP b h1 hb;rw [lz F];exact pG F hP _
theorem L9 (F:aG m p)(hP:eA m p)(a:Nat)(h0:a≠0)(ha:a<2 ^ m):∃ b,b≠0/\b<2 ^ m/\gm m p a b=1:=by
 obtain⟨i,hi,rfl⟩:=oe F hP a h0 ha;exact⟨gx m p (2 ^ m-1-i),pG F hP _,dm F _,by rw [lz F,show i+(2 ^ m-1-i)=2 ^ m-1 by omega,hP.whole]⟩
theorem Ma (F:aG m p)(hP:eA m p)(i j:Nat):gm m p (gx m p i) (gx m p j)=gx m p ((i+j)%(2 ^ m-1)):=by rw [lz F,Bc _ (uR F) hP.whole]
def pH (m p:Nat):Nat->Nat->Bool
 | 0,x=>x==1
 | k+1,x=>x != 1 && pH m p k (gl m p x)
theorem Mb (m p n:Nat)(hn:2 ^ m-1=n+1)(h:pH m p n (gx m p 1)=true):eA m p:=by
 have H:∀ (k i:Nat),pH m p k (gx m p i)=true->gx m p (i+k)=1/\∀ d,i<=d->d<i+k->gx m p d≠1:=by
  intro k
  induction k with
  | zero=>intro i h;exact⟨by simpa [pH] using h,fun d h1 h2=>by omega⟩
  | succ k ih=>
   intro i h;rw [pH,Bool.and_eq_true,<- A9] at h;obtain⟨h1,h2⟩:=h;obtain⟨h3,h4⟩:=ih (i+1) h2;refine⟨by rw [<- h3];congr 1;omega,fun d h5 h6=>?_⟩
   by_cases he:d=i
   ·subst he;simpa using h1
   exact h4 d (by omega) (by omega)
 obtain⟨h1,h2⟩:=H n 1 h;exact⟨by rw [hn,Nat.add_comm];exact h1,fun d h3 h4=>h2 d h3 (by omega)⟩
theorem fld (m p:Nat)(h1:1<=m)(h2:2 ^ m<=p)(h3:p<2 ^ (m+1)):aG m p:=⟨h1,h2,h3⟩
theorem gh:aG 8 285:=fld 8 285 (by decide) (by decide) (by decide)
theorem pQR:eA 8 285:=Mb 8 285 254 rfl (by decide +kernel)
end
end Go.Proofs.YtgccjgpdjkhpdaaGreat.B
