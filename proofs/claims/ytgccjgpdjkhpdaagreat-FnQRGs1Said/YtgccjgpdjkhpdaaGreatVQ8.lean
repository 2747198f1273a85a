import Derived.Laws.BitsAllLaws
import Derived.Laws.Bits128
import Derived.Test.YtgccjgpdjkhpdaaGreatVQ7
/-! Own texts of this claim, part 8. -/
namespace Go.Proofs.YtgccjgpdjkhpdaaGreat.B
open Go.RowKit Go.Proofs.YtgccjgpdjkhpdaaGreatW.PrintWords Go.Proofs.YtgccjgpdjkhpdaaGreatW.PrintLast Go.Proofs.YtgccjgpdjkhpdaaGreatW.PrintMore
set_option linter.unusedVariables false
set_option linter.unusedSimpArgs false
def hd (a b:Nat):Nat:=pcN 64 (a ^^^ b)
theorem pcN_zero (k:Nat):pcN k 0=0:=by
 induction k with
 | zero=>rfl
 | succ k ih=>rw [pcN,Nat.zero_div,ih]
theorem pcN_xor_le:∀ (k x y:Nat),pcN k (x ^^^ y)<=pcN k x+pcN k y:=by
 intro k
 induction k with
 | zero=>intro x y;exact Nat.zero_le _
 | succ k ih=>
  intro x y
  rw [pcN,pcN,pcN,Nat.xor_div_two]
  have:=ih (x/2) (y/2)
  have h:(x ^^^ y)%2<=x%2+y%2:=by
   have e:=Nat.xor_mod_two_pow (a:=x) (b:=y) (n:=1)
   simp only [Nat.pow_one] at e
   rw [e]
   rcases Nat.mod_two_eq_zero_or_one x with h1 | h1<;>rcases Nat.mod_two_eq_zero_or_one y with h2 | h2<;>rw [h1,h2]<;>decide
  omega
theorem hd_comm (a b:Nat):hd a b=hd b a:=by unfold hd;rw [Nat.xor_comm]
theorem hd_self (a:Nat):hd a a=0:=by unfold hd;rw [Nat.xor_self,pcN_zero]
theorem hd_tri (a b c:Nat):hd a c<=hd a b+hd b c:=by
 unfold hd
 have:a ^^^ c=(a ^^^ b) ^^^ (b ^^^ c):=by
  rw [Nat.xor_assoc,<- Nat.xor_assoc b b c,Nat.xor_self,Nat.zero_xor]
 rw [this]
 exact pcN_xor_le _ _ _
def nearStep (a t d:Nat)(s:Nat×Nat):Nat×Nat:=if hd a t<s.1 then (hd a t,d) else s
def fmtStep (a b t d:Nat)(s:Nat×Nat):Nat×Nat:=if a=b then nearStep a t d s else nearStep b t d (nearStep a t d s)
def fmtGo (a b:Nat):List (Nat×Nat)->Nat×Nat->Option Nat
 | [],s=>if s.1<=3 then some s.2 else none
 | (t,d) :: rows,s=>if t=a\/t=b then some d else fmtGo a b rows (fmtStep a b t d s)
def fmtIs (a b:Nat)(x:Nat×Nat)(rows:List (Nat×Nat)):Prop:=hd a x.1<=3/\hd b x.1<=3/\∀ y∈rows,y=x\/4<=hd a y.1/\4<=hd b y.1
theorem nearStep_far (a t d:Nat)(s:Nat×Nat)(h:4<=hd a t)(hs:4<=s.1):4<=(nearStep a t d s).1:=by
 unfold nearStep
 split
 ·exact h
 ·exact hs
theorem nearStep_kept (a t d:Nat)(s:Nat×Nat)(h:4<=hd a t)(hs:s.1<=3):nearStep a t d s=s:=by
 unfold nearStep;rw [if_neg (by omega)]
theorem nearStep_hit (a t d:Nat)(s:Nat×Nat)(h:hd a t<=3)(hs:4<=s.1\/(s.1<=3/\s.2=d)):(nearStep a t d s).1<=3/\(nearStep a t d s).2=d:=by
 unfold nearStep
 split
 ·exact⟨h,rfl⟩
 ·rcases hs with hs | hs
  ·omega
  ·exact hs
theorem fmtGo_found (a b:Nat)(x:Nat×Nat):∀ (rows:List (Nat×Nat)) (s:Nat×Nat),fmtIs a b x rows->(s.1<=3/\s.2=x.2)\/(4<=s.1/\x∈rows)->fmtGo a b rows s=some x.2:=by
 intro rows
 induction rows with
 | nil=>
  intro s _ h
  rcases h with⟨h1,h2⟩ | ⟨_,h⟩
  ·rw [fmtGo,if_pos h1,h2]
  ·cases h
 | cons y rows ih=>
  intro s hi h
  obtain⟨t,d⟩:=y
  obtain⟨h1,h2,h3⟩:=hi
  have hi':fmtIs a b x rows:=⟨h1,h2,fun z hz=>h3 z (List.mem_cons_of_mem _ hz)⟩
  rw [fmtGo]
  rcases h3 (t,d) (List.mem_cons_self ..) with e | ⟨f1,f2⟩
  ·subst e
   by_cases he:t=a\/t=b
   ·rw [if_pos he]
   ·rw [if_neg he]
    refine ih _ hi' (.inl ?_)
    have hs:4<=s.1\/(s.1<=3/\s.2=d):=by
     rcases h with h | h
     ·exact .inr h
     ·exact .inl h.1
    unfold fmtStep
    split
    ·exact nearStep_hit a t d s h1 hs
    ·exact nearStep_hit b t d _ h2 (.inr (nearStep_hit a t d s h1 hs))
  ·simp only at f1 f2
   rw [if_neg]
   ·refine ih _ hi' ?_
    rcases h with h | ⟨h,hm⟩
    ·refine .inl ?_
     have:fmtStep a b t d s=s:=by
      unfold fmtStep
      split
      ·exact nearStep_kept a t d s f1 h.1
      ·rw [nearStep_kept a t d s f1 h.1]
       exact nearStep_kept b t d s f2 h.1
     rw [this]
     exact h
    ·refine .inr ⟨?_,?_⟩
     ·unfold fmtStep
      split
      ·exact nearStep_far a t d s f1 h
      ·exact nearStep_far b t d _ f2 (nearStep_far a t d s f1 h)
     ·rcases List.mem_cons.1 hm with e | e
      ·subst e
       have h1:hd a t<=3:=h1
       omega
      ·exact e
   ·rintro (rfl | rfl)
    ·rw [hd_self] at f1;omega
    ·rw [hd_self] at f2;omega
def fmtTab:List (Nat×Nat):=[(0x5412,0),(0x5125,1),(0x5E7C,2),(0x5B4B,3),(0x45F9,4),(0x40CE,5),(0x4F97,6),(0x4AA0,7),(0x77C4,8),(0x72F3,9),(0x7DAA,10),(0x789D,11),(0x662F,12),(0x6318,13),(0x6C41,14),(0x6976,15),
 (0x1689,16),(0x13BE,17),(0x1CE7,18),(0x19D0,19),(0x0762,20),(0x0255,21),(0x0D0C,22),(0x083B,23),(0x355F,24),(0x3068,25),(0x3F31,26),(0x3A06,27),(0x24B4,28),(0x2183,29),(0x2EDA,30),(0x2BED,31)]
theorem fmt_far:∀ i:Fin 32,∀ k:Fin 32,i≠k->7<=hd (fmtTab.getD i.val (0,0)).1 (fmtTab.getD k.val (0,0)).1:=by decide +kernel
theorem mem_tab {α:Type}(l:List α)(d x:α)(h:x∈l):∃ i,i<l.length/\l.getD i d=x:=by
 obtain⟨i,hi,e⟩:=List.getElem_of_mem h
 exact⟨i,hi,by rw [List.getD_eq_getElem?_getD,List.getElem?_eq_getElem hi,e];rfl⟩
theorem fmt_found (k a b:Nat)(hk:k<32)(ha:hd a (fmtTab.getD k (0,0)).1<=3)(hb:hd b (fmtTab.getD k (0,0)).1<=3):fmtGo a b fmtTab (2147483647,0)=some (fmtTab.getD k (0,0)).2:=by
 refine fmtGo_found a b _ fmtTab _ ⟨ha,hb,?_⟩ (.inr ⟨by decide,?_⟩)
 ·intro y hy
  obtain⟨i,hi,e⟩:=mem_tab fmtTab (0,0) y hy
  have hi:i<32:=hi
  by_cases hik:i=k
  ·subst hik
   exact .inl e.symm
  ·refine .inr ?_
   have hf:=fmt_far ⟨i,hi⟩ ⟨k,hk⟩ (by simpa using hik)
   simp only at hf
   rw [e] at hf
   have t1:=hd_tri y.1 a (fmtTab.getD k (0,0)).1
   have t2:=hd_tri y.1 b (fmtTab.getD k (0,0)).1
   rw [hd_comm y.1 a] at t1
   rw [hd_comm y.1 b] at t2
   omega
 ·have:k<fmtTab.length:=hk
  rw [List.getD_eq_getElem?_getD,List.getElem?_eq_getElem this]
  exact List.getElem_mem this
theorem fmt_snd:∀ k:Fin 32,(fmtTab.getD k.val (0,0)).2=k.val:=by decide
def verGo (a:Nat):List Nat->Nat->Nat×Nat->Option Nat
 | [],_,s=>if s.1<=3 then some s.2 else none
 | t :: rows,i,s=>if t=a then some i else verGo a rows (i+1) (nearStep a t i s)
theorem verGo_found (a x n:Nat):∀ (rows:List Nat) (i:Nat) (s:Nat×Nat),hd a x<=3->(∀ k t,rows[k]? = some t->(i+k=n/\t=x)\/4<=hd a t)->(s.1<=3/\s.2=n)\/(4<=s.1/\∃ k,rows[k]? = some x/\i+k=n)->verGo a rows i s=some n:=by
 intro rows
 induction rows with
 | nil=>
  intro i s _ _ h
  rcases h with⟨h1,h2⟩ | ⟨_,k,h,_⟩
  ·rw [verGo,if_pos h1,h2]
  ·simp at h
 | cons t rows ih=>
  intro i s h1 h3 h
  have h3':∀ k t',rows[k]? = some t'->(i+1+k=n/\t'=x)\/4<=hd a t':=by
   intro k t' hk
   rcases h3 (k+1) t' (by simpa using hk) with⟨e1,e2⟩ | e
   ·exact .inl ⟨by omega,e2⟩
   ·exact .inr e
  rw [verGo]
  rcases h3 0 t rfl with⟨e1,e2⟩ | f1
  ·subst e2
   have e1:i=n:=e1
   subst e1
   by_cases he:t=a
   ·rw [if_pos he]
   ·rw [if_neg he]
    refine ih _ _ h1 h3' (.inl (nearStep_hit a t i s h1 ?_))
    rcases h with h | h
    ·exact .inr h
    ·exact .inl h.1
  ·rw [if_neg]
   ·refine ih _ _ h1 h3' ?_
    rcases h with h | ⟨h,k,hm,hk⟩
    ·exact .inl (by rw [nearStep_kept a t i s f1 h.1];exact h)
    ·refine .inr ⟨nearStep_far a t i s f1 h,?_⟩
     cases k with
     | zero=>
      simp at hm
      subst hm
      omega
     | succ k=>exact⟨k,by simpa using hm,by omega⟩
   ·rintro rfl
    rw [hd_self] at f1;omega
def verTabN:List Nat:=[0x07C94,0x085BC,0x09A99,0x0A4D3,0x0BBF6,0x0C762,0x0D847,0x0E60D,0x0F928,0x10B78,0x1145D,0x12A17,0x13532,0x149A6,0x15683,0x168C9,0x177EC,0x18EC4,0x191E1,0x1AFAB,0x1B08E,0x1CC1A,0x1D33F,0x1ED75,0x1F250,0x209D5,0x216F0,0x228BA,0x2379F,0x24B0B,0x2542E,0x26A64,0x27541,0x28C69]
theorem ver_far:∀ i:Fin 34,∀ k:Fin 34,i≠k->7<=hd (verTabN.getD i.val 0) (verTabN.getD k.val 0):=by decide +kernel
theorem ver_found (k a:Nat)(hk:k<34)(ha:hd a (verTabN.getD k 0)<=3):verGo a verTabN 0 (2147483647,0)=some k:=by
 have hlen:verTabN.length=34:=rfl
 refine verGo_found a (verTabN.getD k 0) k verTabN 0 _ ha ?_ (.inr ⟨by decide,k,?_,by omega⟩)
 ·intro i t hi
  have hil:i<verTabN.length:=(List.getElem?_eq_some_iff.1 hi).1
  have e:verTabN.getD i 0=t:=by rw [List.getD_eq_getElem?_getD,hi];rfl
  by_cases hik:i=k
  ·subst hik
   exact .inl ⟨by omega,e.symm⟩
  ·refine .inr ?_
   have hf:=ver_far ⟨i,by omega⟩ ⟨k,hk⟩ (by simpa using hik)
   simp only at hf
   rw [e] at hf
   have t1:=hd_tri t a (verTabN.getD k 0)
   rw [hd_comm t a] at t1
   omega
 ·rw [List.getD_eq_getElem?_getD,List.getElem?_eq_getElem (by omega)];rfl
def rep (b:Nat):Nat->Nat
 | 0=>0
 | k+1=>256*rep b k+b
theorem and_split (q d M n:Nat)(hd:d<256)(hn:n<256):(256*q+d) &&& (256*M+n)=256*(q &&& M)+(d &&& n):=by
 apply Nat.eq_of_testBit_eq
 intro i
 have hdn:d &&& n<2 ^ 8:=Nat.and_lt_two_pow d hn
 rw [Nat.testBit_and,show 256*q+d=2 ^ 8*q+d from rfl,show 256*M+n=2 ^ 8*M+n from rfl,show 256*(q &&& M)+(d &&& n)=2 ^ 8*(q &&& M)+(d &&& n) from rfl,
  Nat.testBit_two_pow_mul_add q hd,Nat.testBit_two_pow_mul_add M hn,Nat.testBit_two_pow_mul_add _ hdn]
 by_cases h:i<8
 ·simp [h,Nat.testBit_and]
 ·simp [h,Nat.testBit_and]
def st1 (k x:Nat):Nat:=(x/2 &&& rep 85 k)+(x &&& rep 85 k)
def st2 (k y:Nat):Nat:=(y/4 &&& rep 51 k)+(y &&& rep 51 k)
theorem low1:∀ a:Fin 2,∀ d:Fin 256,(128*a.val+d.val/2) &&& 85=d.val/2 &&& 85:=by decide +kernel
theorem low2:∀ a:Fin 4,∀ d:Fin 256,(64*a.val+d.val/4) &&& 51=d.val/4 &&& 51:=by decide +kernel
theorem st1_one (d:Nat):st1 1 d=(d/2 &&& 85)+(d &&& 85):=rfl
theorem st2_one (d:Nat):st2 1 d=(d/4 &&& 51)+(d &&& 51):=rfl
theorem st1_step (k q d:Nat)(hd:d<256):st1 (k+1) (256*q+d)=256*st1 k q+st1 1 d:=by
 rw [st1_one]
 unfold st1
 rw [rep,show (256*q+d)/2=256*(q/2)+(128*(q%2)+d/2) by omega,and_split _ _ _ _ (by omega) (by omega),and_split _ _ _ _ hd (by omega)]
 have:=low1 ⟨q%2,by omega⟩ ⟨d,hd⟩
 simp only at this
 rw [this]
 omega
theorem st2_step (k q d:Nat)(hd:d<256):st2 (k+1) (256*q+d)=256*st2 k q+st2 1 d:=by
 rw [st2_one]
 unfold st2
 rw [rep,show (256*q+d)/4=256*(q/4)+(64*(q%4)+d/4) by omega,and_split _ _ _ _ (by omega) (by omega),and_split _ _ _ _ hd (by omega)]
 have:=low2 ⟨q%4,by omega⟩ ⟨d,hd⟩
 simp only at this
 rw [this]
 omega
theorem byte_facts:∀ d:Fin 256,st1 1 d.val<256/\st2 1 (st1 1 d.val)%16<=4/\st2 1 (st1 1 d.val)/16<=4/\(st2 1 (st1 1 d.val)/16+st2 1 (st1 1 d.val))%16=pcN 8 d.val:=by decide +kernel
theorem st1_zero (k:Nat):st1 k 0=0:=by unfold st1;simp
theorem st2_zero (k:Nat):st2 k 0=0:=by unfold st2;simp
theorem and15 (a:Nat):a &&& 15=a%16:=Nat.and_two_pow_sub_one_eq_mod (n:=4) a
theorem swar (x0 x1 x2:Nat)(h0:x0<256)(h1:x1<256)(h2:x2<256) :
  ∃ a b c,st2 8 (st1 8 (256*(256*x2+x1)+x0))=256*(256*c+b)+a/\a%16<=4/\a/16<=4/\b%16<=4/\b/16<=4/\c%16<=4/\c/16<=4/\
   (a/16+a)%16=pcN 8 x0/\(b/16+b)%16=pcN 8 x1/\(c/16+c)%16=pcN 8 x2:=by
 obtain⟨a1,a2,a3,a4⟩:=byte_facts ⟨x0,h0⟩
 obtain⟨b1,b2,b3,b4⟩:=byte_facts ⟨x1,h1⟩
 obtain⟨c1,c2,c3,c4⟩:=byte_facts ⟨x2,h2⟩
 simp only at a1 a2 a3 a4 b1 b2 b3 b4 c1 c2 c3 c4
 refine⟨st2 1 (st1 1 x0),st2 1 (st1 1 x1),st2 1 (st1 1 x2),?_,a2,a3,b2,b3,c2,c3,a4,b4,c4⟩
 have e6:st1 6 x2=st1 1 x2:=by
  have:=st1_step 5 0 x2 h2
  rw [st1_zero,Nat.mul_zero,Nat.zero_add,Nat.zero_add] at this
  exact this
 have f6:st2 6 (st1 1 x2)=st2 1 (st1 1 x2):=by
  have:=st2_step 5 0 (st1 1 x2) c1
  rw [st2_zero,Nat.mul_zero,Nat.zero_add,Nat.zero_add] at this
  exact this
 rw [st1_step 7 _ _ h0,st1_step 6 _ _ h1,e6,st2_step 7 _ _ a1,st2_step 6 _ _ b1,f6]
theorem st3 (a b c:Nat)(ha:a%16<=4/\a/16<=4)(hb:b%16<=4/\b/16<=4)(hc:c%16<=4/\c/16<=4) :
  ((256*(256*c+b)+a)/16+(256*(256*c+b)+a)) &&& rep 15 8=256*(256*((c/16+c)%16)+(b/16+b)%16)+(a/16+a)%16:=by
 have e:(256*(256*c+b)+a)/16+(256*(256*c+b)+a)=256*(256*(256*0+(c/16+c))+(16*(c%16)+b/16+b))+(16*(b%16)+a/16+a):=by omega
 rw [e,show rep 15 8=256*(256*(256*rep 15 5+15)+15)+15 from rfl,and_split _ _ _ _ (by omega) (by omega),and_split _ _ _ _ (by omega) (by omega),and_split _ _ _ _ (by omega) (by omega),and15,and15,and15,Nat.zero_and]
 omega
theorem pcN_add:∀ (i j x:Nat),pcN (i+j) x=pcN i x+pcN j (x/2 ^ i):=by
 intro i
 induction i with
 | zero=>intro j x;simp [pcN]
 | succ i ih=>
  intro j x
  rw [Nat.add_right_comm,pcN,pcN,ih,Nat.pow_succ,Nat.mul_comm (2 ^ i) 2,<- Nat.div_div_eq_div_mul]
  omega
theorem pcN_mod (i x:Nat):pcN i (x%2 ^ i)=pcN i x:=by
 rw [pcN_eq,pcN_eq]
 apply List.countP_congr
 intro k hk
 rw [List.mem_range] at hk
 simp [Nat.testBit_mod_two_pow,hk]
theorem pcN_bytes (x:Nat)(h:x<16777216):pcN 64 x=pcN 8 (x%256)+pcN 8 (x/256%256)+pcN 8 (x/65536):=by
 rw [show 64=8+(8+(8+40)) from rfl,pcN_add 8,pcN_add 8,pcN_add 8]
 have e1:pcN 8 (x%256)=pcN 8 x:=pcN_mod 8 x
 have e2:pcN 8 (x/256%256)=pcN 8 (x/256):=pcN_mod 8 _
 have e3:x/2 ^ 8/2 ^ 8/2 ^ 8=0:=by omega
 rw [e1,e2,e3,pcN_zero,show x/2 ^ 8/2 ^ 8=x/65536 by omega]
 show _+(_+(_+0))=_
 rw [show x/2 ^ 8=x/256 from rfl]
 omega
theorem pcN_le:∀ (k x:Nat),pcN k x<=k:=by
 intro k
 induction k with
 | zero=>intro x;exact Nat.le_refl _
 | succ k ih=>intro x;rw [pcN];have:=ih (x/2);omega
theorem wrapU (a:Int)(h0:0<=a)(h1:a<18446744073709551616):IntKind.u64.wrap a=a:=by
 have:IntKind.u64.wrap a=a%18446744073709551616:=by simp [IntKind.wrap,IntKind.bits,IntKind.signed]
 rw [this]
 exact Int.emod_eq_of_lt h0 h1
theorem sum3 (k0 k1 k2 u v z:Nat)(h0:k0<=8)(h1:k1<=8)(h2:k2<=8)(hu:u=256*(256*k2+k1)+k0)(hv:v=u+u/256+(u+u/256)/65536)(hz:z=v+v/4294967296):z%128=k0+k1+k2:=by
 have e1:u/256=256*k2+k1:=by omega
 have e2:u+u/256=65536*k2+256*(k1+k2)+(k0+k1):=by omega
 have e3:(u+u/256)/65536=k2:=by omega
 have e4:v=65536*k2+256*(k1+k2)+(k0+k1+k2):=by omega
 have e5:v/4294967296=0:=by omega
 omega
theorem oc64 (x:Nat)(hx:x<16777216):F.bits_OnesCount64.f (x:Int)=some ((pcN 64 x:Nat):Int):=by
 obtain⟨a,b,c,hz,a1,a2,b1,b2,c1,c2,r0,r1,r2⟩:=swar (x%256) (x/256%256) (x/65536) (by omega) (by omega) (by omega)
 rw [show 256*(256*(x/65536)+x/256%256)+x%256=x by omega] at hz
 have hs3:=st3 a b c ⟨a1,a2⟩ ⟨b1,b2⟩ ⟨c1,c2⟩
 rw [r0,r1,r2] at hs3
 have hp:=pcN_bytes x hx
 have l0:=pcN_le 8 (x%256)
 have l1:=pcN_le 8 (x/256%256)
 have l2:=pcN_le 8 (x/65536)
 obtain⟨p,hp1⟩:∃ p,x/2 &&& rep 85 8=p:=⟨_,rfl⟩
 obtain⟨q,hq1⟩:∃ q,x &&& rep 85 8=q:=⟨_,rfl⟩
 have pl:p<=x/2:=by rw [<- hp1];exact Nat.and_le_left
 have ql:q<=x:=by rw [<- hq1];exact Nat.and_le_left
 have hy:st1 8 x=p+q:=by unfold st1;rw [hp1,hq1]
 have f1:Go.bits .and .u64 ((x:Int)/2) 6148914691236517205=((p:Nat):Int):=by
  have:=u64_and_nat (x/2) (rep 85 8) (by omega) (by decide)
  rw [hp1] at this
  rw [<- this];rfl
 have f2:Go.bits .and .u64 (x:Int) 6148914691236517205=((q:Nat):Int):=by
  have:=u64_and_nat x (rep 85 8) (by omega) (by decide)
  rw [hq1] at this
  rw [<- this];rfl
 have f3:IntKind.u64.wrap (((p:Nat):Int)+((q:Nat):Int))=((p+q:Nat):Int):=by rw [wrapU _ (by omega) (by omega)];omega
 obtain⟨s,hs1⟩:∃ s,(p+q)/4 &&& rep 51 8=s:=⟨_,rfl⟩
 obtain⟨t,ht1⟩:∃ t,(p+q) &&& rep 51 8=t:=⟨_,rfl⟩
 have sl:s<=(p+q)/4:=by rw [<- hs1];exact Nat.and_le_left
 have tl:t<=p+q:=by rw [<- ht1];exact Nat.and_le_left
 have hy2:st2 8 (p+q)=s+t:=by unfold st2;rw [hs1,ht1]
 rw [hy,hy2] at hz
 have f4:Go.bits .and .u64 (((p+q:Nat):Int)/4) 3689348814741910323=((s:Nat):Int):=by
  have:=u64_and_nat ((p+q)/4) (rep 51 8) (by omega) (by decide)
  rw [hs1] at this
  rw [<- this];rfl
 have f5:Go.bits .and .u64 ((p+q:Nat):Int) 3689348814741910323=((t:Nat):Int):=by
  have:=u64_and_nat (p+q) (rep 51 8) (by omega) (by decide)
  rw [ht1] at this
  rw [<- this];rfl
 have f6:IntKind.u64.wrap (((s:Nat):Int)+((t:Nat):Int))=((s+t:Nat):Int):=by rw [wrapU _ (by omega) (by omega)];omega
 have f7:IntKind.u64.wrap (((s+t:Nat):Int)/16+((s+t:Nat):Int))=(((s+t)/16+(s+t):Nat):Int):=by rw [wrapU _ (by omega) (by omega)];omega
 obtain⟨u,hu⟩:∃ u,((s+t)/16+(s+t)) &&& rep 15 8=u:=⟨_,rfl⟩
 have f8:Go.bits .and .u64 (((s+t)/16+(s+t):Nat):Int) 1085102592571150095=((u:Nat):Int):=by
  have:=u64_and_nat ((s+t)/16+(s+t)) (rep 15 8) (by omega) (by decide)
  rw [hu] at this
  rw [<- this];rfl
 rw [hz,hs3] at hu
 have f9:IntKind.u64.wrap (((u:Nat):Int)+((u:Nat):Int)/256)=((u+u/256:Nat):Int):=by rw [wrapU _ (by omega) (by omega)];omega
 have f10:IntKind.u64.wrap (((u+u/256:Nat):Int)+((u+u/256:Nat):Int)/65536)=((u+u/256+(u+u/256)/65536:Nat):Int):=by rw [wrapU _ (by omega) (by omega)];omega
 obtain⟨v,hv⟩:∃ v,u+u/256+(u+u/256)/65536=v:=⟨_,rfl⟩
 rw [hv] at f10
 have f11:IntKind.u64.wrap (((v:Nat):Int)+((v:Nat):Int)/4294967296)=((v+v/4294967296:Nat):Int):=by rw [wrapU _ (by omega) (by omega)];omega
 obtain⟨z,hzz⟩:∃ z,v+v/4294967296=z:=⟨_,rfl⟩
 rw [hzz] at f11
 have f12:wrap64 ((z:Nat):Int)=((z:Nat):Int):=by unfold wrap64;omega
 have f13:Go.bits .and .i64 ((z:Nat):Int) 127=((pcN 64 x:Nat):Int):=by
  have:=sum3 (pcN 8 (x%256)) (pcN 8 (x/256%256)) (pcN 8 (x/65536)) u v z l0 l1 l2 hu.symm hv.symm hzz.symm
  rw [i64_and127,hp,<- this]
  rfl
 unfold F.bits_OnesCount64.f
 simp only [f1,f2,f3,f4,f5,f6,f7,f8,f9,f10,f11,f12,f13]
theorem bitsDiff (a b:Nat)(ha:a<16777216)(hb:b<16777216):F.decoder_FormatInformation_NumBitsDiffering.f (a:Int) (b:Int)=some ((hd a b:Nat):Int):=by
 unfold F.decoder_FormatInformation_NumBitsDiffering.f F.bits_OnesCount.f
 rw [u64_xor_nat a b (by omega) (by omega),oc64 _ (Nat.xor_lt_two_pow (n:=24) ha hb)]
 rfl
end Go.Proofs.YtgccjgpdjkhpdaaGreat.B
