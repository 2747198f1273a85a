import Derived.Laws.BitsAllLaws
import Derived.Laws.Bits128
import Derived.Laws.BitsLemmas
import Derived.Deep.RegionWith
import Derived.Test.YtgccjgpdjkhpdaaGreatVCrop3
import Derived.Test.YtgccjgpdjkhpdaaGreatVCrop5
/-! Own texts of this claim, part 4. -/
namespace Go.Proofs.YtgccjgpdjkhpdaaGreat.B
open Go.RowKit Go.Proofs.YtgccjgpdjkhpdaaGreatW.PrintWords Go.Proofs.YtgccjgpdjkhpdaaGreatW.PrintLast Go.Proofs.YtgccjgpdjkhpdaaGreatW.PrintMore
set_option linter.unusedVariables false
set_option linter.unusedSimpArgs false
def hd (a b:Nat):Nat:=pcN 64 (a ^^^ b)
theorem pcN_zero (k:Nat):pcN k 0=0:=by
 induction k with
 | zero=>rfl
 | succ k ih=>rw [pcN,Nat.zero_div,ih]
theorem pcN_xor_le:∀ (k x y:Nat),pcN k (x ^^^ y)<=pcN k x+pcN k y:=by
 intro k
 induction k with
 | zero=>intro x y;exact Nat.zero_le _
 | succ k ih=>
  intro x y
  rw [pcN,pcN,pcN,Nat.xor_div_two]
  have:=ih (x/2) (y/2)
  have h:(x ^^^ y)%2<=x%2+y%2:=by
   have e:=Nat.xor_mod_two_pow (a:=x) (b:=y) (n:=1)
   simp only [Nat.pow_one] at e
   rw [e]
   rcases Nat.mod_two_eq_zero_or_one x with h1 | h1<;>rcases Nat.mod_two_eq_zero_or_one y with h2 | h2<;>rw [h1,h2]<;>decide
  omega
theorem hd_comm (a b:Nat):hd a b=hd b a:=by unfold hd;rw [Nat.xor_comm]
theorem hd_self (a:Nat):hd a a=0:=by unfold hd;rw [Nat.xor_self,pcN_zero]
theorem hd_tri (a b c:Nat):hd a c<=hd a b+hd b c:=by
 unfold hd
 have:a ^^^ c=(a ^^^ b) ^^^ (b ^^^ c):=by
  rw [Nat.xor_assoc,<- Nat.xor_assoc b b c,Nat.xor_self,Nat.zero_xor]
 rw [this]
 exact pcN_xor_le _ _ _
def nearStep (a t d:Nat)(s:Nat×Nat):Nat×Nat:=if hd a t<s.1 then (hd a t,d) else s
def fmtStep (a b t d:Nat)(s:Nat×Nat):Nat×Nat:=if a=b then nearStep a t d s else nearStep b t d (nearStep a t d s)
def fmtGo (a b:Nat):List (Nat×Nat)->Nat×Nat->Option Nat
 | [],s=>if s.1<=3 then some s.2 else none
 | (t,d) :: rows,s=>if t=a\/t=b then some d else fmtGo a b rows (fmtStep a b t d s)
def fmtIs (a b:Nat)(x:Nat×Nat)(rows:List (Nat×Nat)):Prop:=hd a x.1<=3/\hd b x.1<=3/\∀ y∈rows,y=x\/4<=hd a y.1/\4<=hd b y.1
theorem nearStep_far (a t d:Nat)(s:Nat×Nat)(h:4<=hd a t)(hs:4<=s.1):4<=(nearStep a t d s).1:=by
 unfold nearStep
 split
 ·exact h
 ·exact hs
theorem nearStep_kept (a t d:Nat)(s:Nat×Nat)(h:4<=hd a t)(hs:s.1<=3):nearStep a t d s=s:=by
 unfold nearStep;rw [if_neg (by omega)]
theorem nearStep_hit (a t d:Nat)(s:Nat×Nat)(h:hd a t<=3)(hs:4<=s.1\/(s.1<=3/\s.2=d)):(nearStep a t d s).1<=3/\(nearStep a t d s).2=d:=by
 unfold nearStep
 split
 ·exact⟨h,rfl⟩
 ·rcases hs with hs | hs
  ·omega
  ·exact hs
theorem fmtGo_found (a b:Nat)(x:Nat×Nat):∀ (rows:List (Nat×Nat)) (s:Nat×Nat),fmtIs a b x rows->(s.1<=3/\s.2=x.2)\/(4<=s.1/\x∈rows)->fmtGo a b rows s=some x.2:=by
 intro rows
 induction rows with
 | nil=>
  intro s _ h
  rcases h with⟨h1,h2⟩ | ⟨_,h⟩
  ·rw [fmtGo,if_pos h1,h2]
  ·cases h
 | cons y rows ih=>
  intro s hi h
  obtain⟨t,d⟩:=y
  obtain⟨h1,h2,h3⟩:=hi
  have hi':fmtIs a b x rows:=⟨h1,h2,fun z hz=>h3 z (List.mem_cons_of_mem _ hz)⟩
  rw [fmtGo]
  rcases h3 (t,d) (List.mem_cons_self ..) with e | ⟨f1,f2⟩
  ·subst e
   by_cases he:t=a\/t=b
   ·rw [if_pos he]
   ·rw [if_neg he]
    refine ih _ hi' (.inl ?_)
    have hs:4<=s.1\/(s.1<=3/\s.2=d):=by
     rcases h with h | h
     ·exact .inr h
     ·exact .inl h.1
    unfold fmtStep
    split
    ·exact nearStep_hit a t d s h1 hs
    ·exact nearStep_hit b t d _ h2 (.inr (nearStep_hit a t d s h1 hs))
  ·simp only at f1 f2
   rw [if_neg]
   ·refine ih _ hi' ?_
    rcases h with h | ⟨h,hm⟩
    ·refine .inl ?_
     have:fmtStep a b t d s=s:=by
      unfold fmtStep
      split
      ·exact nearStep_kept a t d s f1 h.1
      ·rw [nearStep_kept a t d s f1 h.1]
       exact nearStep_kept b t d s f2 h.1
     rw [this]
     exact h
    ·refine .inr ⟨?_,?_⟩
     ·unfold fmtStep
      split
      ·exact nearStep_far a t d s f1 h
      ·exact nearStep_far b t d _ f2 (nearStep_far a t d s f1 h)
     ·rcases List.mem_cons.1 hm with e | e
      ·subst e
       have h1:hd a t<=3:=h1
       omega
      ·exact e
   ·rintro (rfl | rfl)
    ·rw [hd_self] at f1;omega
    ·rw [hd_self] at f2;omega
def fmtTab:List (Nat×Nat):=[(0x5412,0),(0x5125,1),(0x5E7C,2),(0x5B4B,3),(0x45F9,4),(0x40CE,5),(0x4F97,6),(0x4AA0,7),(0x77C4,8),(0x72F3,9),(0x7DAA,10),(0x789D,11),(0x662F,12),(0x6318,13),(0x6C41,14),(0x6976,15),
 (0x1689,16),(0x13BE,17),(0x1CE7,18),(0x19D0,19),(0x0762,20),(0x0255,21),(0x0D0C,22),(0x083B,23),(0x355F,24),(0x3068,25),(0x3F31,26),(0x3A06,27),(0x24B4,28),(0x2183,29),(0x2EDA,30),(0x2BED,31)]
theorem fmt_far:∀ i:Fin 32,∀ k:Fin 32,i≠k->7<=hd (fmtTab.getD i.val (0,0)).1 (fmtTab.getD k.val (0,0)).1:=by decide +kernel
theorem mem_tab {α:Type}(l:List α)(d x:α)(h:x∈l):∃ i,i<l.length/\l.getD i d=x:=by
 obtain⟨i,hi,e⟩:=List.getElem_of_mem h
 exact⟨i,hi,by rw [List.getD_eq_getElem?_getD,List.getElem?_eq_getElem hi,e];rfl⟩
theorem fmt_found (k a b:Nat)(hk:k<32)(ha:hd a (fmtTab.getD k (0,0)).1<=3)(hb:hd b (fmtTab.getD k (0,0)).1<=3):fmtGo a b fmtTab (2147483647,0)=some (fmtTab.getD k (0,0)).2:=by
 refine fmtGo_found a b _ fmtTab _ ⟨ha,hb,?_⟩ (.inr ⟨by decide,?_⟩)
 ·intro y hy
  obtain⟨i,hi,e⟩:=mem_tab fmtTab (0,0) y hy
  have hi:i<32:=hi
  by_cases hik:i=k
  ·subst hik
   exact .inl e.symm
  ·refine .inr ?_
   have hf:=fmt_far ⟨i,hi⟩ ⟨k,hk⟩ (by simpa using hik)
   simp only at hf
   rw [e] at hf
   have t1:=hd_tri y.1 a (fmtTab.getD k (0,0)).1
   have t2:=hd_tri y.1 b (fmtTab.getD k (0,0)).1
   rw [hd_comm y.1 a] at t1
   rw [hd_comm y.1 b] at t2
   omega
 ·have:k<fmtTab.length:=hk
  rw [List.getD_eq_getElem?_getD,List.getElem?_eq_getElem this]
  exact List.getElem_mem this
theorem fmt_snd:∀ k:Fin 32,(fmtTab.getD k.val (0,0)).2=k.val:=by decide
def verGo (a:Nat):List Nat->Nat->Nat×Nat->Option Nat
 | [],_,s=>if s.1<=3 then some s.2 else none
 | t :: rows,i,s=>if t=a then some i else verGo a rows (i+1) (nearStep a t i s)
theorem verGo_found (a x n:Nat):∀ (rows:List Nat) (i:Nat) (s:Nat×Nat),hd a x<=3->(∀ k t,rows[k]? = some t->(i+k=n/\t=x)\/4<=hd a t)->(s.1<=3/\s.2=n)\/(4<=s.1/\∃ k,rows[k]? = some x/\i+k=n)->verGo a rows i s=some n:=by
 intro rows
 induction rows with
 | nil=>
  intro i s _ _ h
  rcases h with⟨h1,h2⟩ | ⟨_,k,h,_⟩
  ·rw [verGo,if_pos h1,h2]
  ·simp at h
 | cons t rows ih=>
  intro i s h1 h3 h
  have h3':∀ k t',rows[k]? = some t'->(i+1+k=n/\t'=x)\/4<=hd a t':=by
   intro k t' hk
   rcases h3 (k+1) t' (by simpa using hk) with⟨e1,e2⟩ | e
   ·exact .inl ⟨by omega,e2⟩
   ·exact .inr e
  rw [verGo]
  rcases h3 0 t rfl with⟨e1,e2⟩ | f1
  ·subst e2
   have e1:i=n:=e1
   subst e1
   by_cases he:t=a
   ·rw [if_pos he]
   ·rw [if_neg he]
    refine ih _ _ h1 h3' (.inl (nearStep_hit a t i s h1 ?_))
    rcases h with h | h
    ·exact .inr h
    ·exact .inl h.1
  ·rw [if_neg]
   ·refine ih _ _ h1 h3' ?_
    rcases h with h | ⟨h,k,hm,hk⟩
    ·exact .inl (by rw [nearStep_kept a t i s f1 h.1];exact h)
    ·refine .inr ⟨nearStep_far a t i s f1 h,?_⟩
     cases k with
     | zero=>
      simp at hm
      subst hm
      omega
     | succ k=>exact⟨k,by simpa using hm,by omega⟩
   ·rintro rfl
    rw [hd_self] at f1;omega
def verTabN:List Nat:=[0x07C94,0x085BC,0x09A99,0x0A4D3,0x0BBF6,0x0C762,0x0D847,0x0E60D,0x0F928,0x10B78,0x1145D,0x12A17,0x13532,0x149A6,0x15683,0x168C9,0x177EC,0x18EC4,0x191E1,0x1AFAB,0x1B08E,0x1CC1A,0x1D33F,0x1ED75,0x1F250,0x209D5,0x216F0,0x228BA,0x2379F,0x24B0B,0x2542E,0x26A64,0x27541,0x28C69]
theorem ver_far:∀ i:Fin 34,∀ k:Fin 34,i≠k->7<=hd (verTabN.getD i.val 0) (verTabN.getD k.val 0):=by decide +kernel
theorem ver_found (k a:Nat)(hk:k<34)(ha:hd a (verTabN.getD k 0)<=3):verGo a verTabN 0 (2147483647,0)=some k:=by
 have hlen:verTabN.length=34:=rfl
 refine verGo_found a (verTabN.getD k 0) k verTabN 0 _ ha ?_ (.inr ⟨by decide,k,?_,by omega⟩)
 ·intro i t hi
  have hil:i<verTabN.length:=(List.getElem?_eq_some_iff.1 hi).1
  have e:verTabN.getD i 0=t:=by rw [List.getD_eq_getElem?_getD,hi];rfl
  by_cases hik:i=k
  ·subst hik
   exact .inl ⟨by omega,e.symm⟩
  ·refine .inr ?_
   have hf:=ver_far ⟨i,by omega⟩ ⟨k,hk⟩ (by simpa using hik)
   simp only at hf
   rw [e] at hf
   have t1:=hd_tri t a (verTabN.getD k 0)
   rw [hd_comm t a] at t1
   omega
 ·rw [List.getD_eq_getElem?_getD,List.getElem?_eq_getElem (by omega)];rfl
def rep (b:Nat):Nat->Nat
 | 0=>0
 | k+1=>256*rep b k+b
theorem and_split (q d M n:Nat)(hd:d<256)(hn:n<256):(256*q+d) &&& (256*M+n)=256*(q &&& M)+(d &&& n):=by
 apply Nat.eq_of_testBit_eq
 intro i
 have hdn:d &&& n<2 ^ 8:=Nat.and_lt_two_pow d hn
 rw [Nat.testBit_and,show 256*q+d=2 ^ 8*q+d from rfl,show 256*M+n=2 ^ 8*M+n from rfl,show 256*(q &&& M)+(d &&& n)=2 ^ 8*(q &&& M)+(d &&& n) from rfl,
  Nat.testBit_two_pow_mul_add q hd,Nat.testBit_two_pow_mul_add M hn,Nat.testBit_two_pow_mul_add _ hdn]
 by_cases h:i<8
 ·simp [h,Nat.testBit_and]
 ·simp [h,Nat.testBit_and]
def st1 (k x:Nat):Nat:=(x/2 &&& rep 85 k)+(x &&& rep 85 k)
def st2 (k y:Nat):Nat:=(y/4 &&& rep 51 k)+(y &&& rep 51 k)
theorem low1:∀ a:Fin 2,∀ d:Fin 256,(128*a.val+d.val/2) &&& 85=d.val/2 &&& 85:=by decide +kernel
theorem low2:∀ a:Fin 4,∀ d:Fin 256,(64*a.val+d.val/4) &&& 51=d.val/4 &&& 51:=by decide +kernel
theorem st1_one (d:Nat):st1 1 d=(d/2 &&& 85)+(d &&& 85):=rfl
theorem st2_one (d:Nat):st2 1 d=(d/4 &&& 51)+(d &&& 51):=rfl
theorem st1_step (k q d:Nat)(hd:d<256):st1 (k+1) (256*q+d)=256*st1 k q+st1 1 d:=by
 rw [st1_one]
 unfold st1
 rw [rep,show (256*q+d)/2=256*(q/2)+(128*(q%2)+d/2) by omega,and_split _ _ _ _ (by omega) (by omega),and_split _ _ _ _ hd (by omega)]
 have:=low1 ⟨q%2,by omega⟩ ⟨d,hd⟩
 simp only at this
 rw [this]
 omega
theorem st2_step (k q d:Nat)(hd:d<256):st2 (k+1) (256*q+d)=256*st2 k q+st2 1 d:=by
 rw [st2_one]
 unfold st2
 rw [rep,show (256*q+d)/4=256*(q/4)+(64*(q%4)+d/4) by omega,and_split _ _ _ _ (by omega) (by omega),and_split _ _ _ _ hd (by omega)]
 have:=low2 ⟨q%4,by omega⟩ ⟨d,hd⟩
 simp only at this
 rw [this]
 omega
theorem byte_facts:∀ d:Fin 256,st1 1 d.val<256/\st2 1 (st1 1 d.val)%16<=4/\st2 1 (st1 1 d.val)/16<=4/\(st2 1 (st1 1 d.val)/16+st2 1 (st1 1 d.val))%16=pcN 8 d.val:=by decide +kernel
theorem st1_zero (k:Nat):st1 k 0=0:=by unfold st1;simp
theorem st2_zero (k:Nat):st2 k 0=0:=by unfold st2;simp
theorem and15 (a:Nat):a &&& 15=a%16:=Nat.and_two_pow_sub_one_eq_mod (n:=4) a
theorem swar (x0 x1 x2:Nat)(h0:x0<256)(h1:x1<256)(h2:x2<256) :
  ∃ a b c,st2 8 (st1 8 (256*(256*x2+x1)+x0))=256*(256*c+b)+a/\a%16<=4/\a/16<=4/\b%16<=4/\b/16<=4/\c%16<=4/\c/16<=4/\
   (a/16+a)%16=pcN 8 x0/\(b/16+b)%16=pcN 8 x1/\(c/16+c)%16=pcN 8 x2:=by
 obtain⟨a1,a2,a3,a4⟩:=byte_facts ⟨x0,h0⟩
 obtain⟨b1,b2,b3,b4⟩:=byte_facts ⟨x1,h1⟩
 obtain⟨c1,c2,c3,c4⟩:=byte_facts ⟨x2,h2⟩
 simp only at a1 a2 a3 a4 b1 b2 b3 b4 c1 c2 c3 c4
 refine⟨st2 1 (st1 1 x0),st2 1 (st1 1 x1),st2 1 (st1 1 x2),?_,a2,a3,b2,b3,c2,c3,a4,b4,c4⟩
 have e6:st1 6 x2=st1 1 x2:=by
  have:=st1_step 5 0 x2 h2
  rw [st1_zero,Nat.mul_zero,Nat.zero_add,Nat.zero_add] at this
  exact this
 have f6:st2 6 (st1 1 x2)=st2 1 (st1 1 x2):=by
  have:=st2_step 5 0 (st1 1 x2) c1
  rw [st2_zero,Nat.mul_zero,Nat.zero_add,Nat.zero_add] at this
  exact this
 rw [st1_step 7 _ _ h0,st1_step 6 _ _ h1,e6,st2_step 7 _ _ a1,st2_step 6 _ _ b1,f6]
theorem st3 (a b c:Nat)(ha:a%16<=4/\a/16<=4)(hb:b%16<=4/\b/16<=4)(hc:c%16<=4/\c/16<=4) :
  ((256*(256*c+b)+a)/16+(256*(256*c+b)+a)) &&& rep 15 8=256*(256*((c/16+c)%16)+(b/16+b)%16)+(a/16+a)%16:=by
 have e:(256*(256*c+b)+a)/16+(256*(256*c+b)+a)=256*(256*(256*0+(c/16+c))+(16*(c%16)+b/16+b))+(16*(b%16)+a/16+a):=by omega
 rw [e,show rep 15 8=256*(256*(256*rep 15 5+15)+15)+15 from rfl,and_split _ _ _ _ (by omega) (by omega),and_split _ _ _ _ (by omega) (by omega),and_split _ _ _ _ (by omega) (by omega),and15,and15,and15,Nat.zero_and]
 omega
theorem pcN_add:∀ (i j x:Nat),pcN (i+j) x=pcN i x+pcN j (x/2 ^ i):=by
 intro i
 induction i with
 | zero=>intro j x;simp [pcN]
 | succ i ih=>
  intro j x
  rw [Nat.add_right_comm,pcN,pcN,ih,Nat.pow_succ,Nat.mul_comm (2 ^ i) 2,<- Nat.div_div_eq_div_mul]
  omega
theorem pcN_mod (i x:Nat):pcN i (x%2 ^ i)=pcN i x:=by
 rw [pcN_eq,pcN_eq]
 apply List.countP_congr
 intro k hk
 rw [List.mem_range] at hk
 simp [Nat.testBit_mod_two_pow,hk]
theorem pcN_bytes (x:Nat)(h:x<16777216):pcN 64 x=pcN 8 (x%256)+pcN 8 (x/256%256)+pcN 8 (x/65536):=by
 rw [show 64=8+(8+(8+40)) from rfl,pcN_add 8,pcN_add 8,pcN_add 8]
 have e1:pcN 8 (x%256)=pcN 8 x:=pcN_mod 8 x
 have e2:pcN 8 (x/256%256)=pcN 8 (x/256):=pcN_mod 8 _
 have e3:x/2 ^ 8/2 ^ 8/2 ^ 8=0:=by omega
 rw [e1,e2,e3,pcN_zero,show x/2 ^ 8/2 ^ 8=x/65536 by omega]
 show _+(_+(_+0))=_
 rw [show x/2 ^ 8=x/256 from rfl]
 omega
theorem pcN_le:∀ (k x:Nat),pcN k x<=k:=by
 intro k
 induction k with
 | zero=>intro x;exact Nat.le_refl _
 | succ k ih=>intro x;rw [pcN];have:=ih (x/2);omega
theorem wrapU (a:Int)(h0:0<=a)(h1:a<18446744073709551616):IntKind.u64.wrap a=a:=by
 have:IntKind.u64.wrap a=a%18446744073709551616:=by simp [IntKind.wrap,IntKind.bits,IntKind.signed]
 rw [this]
 exact Int.emod_eq_of_lt h0 h1
theorem sum3 (k0 k1 k2 u v z:Nat)(h0:k0<=8)(h1:k1<=8)(h2:k2<=8)(hu:u=256*(256*k2+k1)+k0)(hv:v=u+u/256+(u+u/256)/65536)(hz:z=v+v/4294967296):z%128=k0+k1+k2:=by
 have e1:u/256=256*k2+k1:=by omega
 have e2:u+u/256=65536*k2+256*(k1+k2)+(k0+k1):=by omega
 have e3:(u+u/256)/65536=k2:=by omega
 have e4:v=65536*k2+256*(k1+k2)+(k0+k1+k2):=by omega
 have e5:v/4294967296=0:=by omega
 omega
theorem oc64 (x:Nat)(hx:x<16777216):F.bits_OnesCount64.f (x:Int)=some ((pcN 64 x:Nat):Int):=by
 obtain⟨a,b,c,hz,a1,a2,b1,b2,c1,c2,r0,r1,r2⟩:=swar (x%256) (x/256%256) (x/65536) (by omega) (by omega) (by omega)
 rw [show 256*(256*(x/65536)+x/256%256)+x%256=x by omega] at hz
 have hs3:=st3 a b c ⟨a1,a2⟩ ⟨b1,b2⟩ ⟨c1,c2⟩
 rw [r0,r1,r2] at hs3
 have hp:=pcN_bytes x hx
 have l0:=pcN_le 8 (x%256)
 have l1:=pcN_le 8 (x/256%256)
 have l2:=pcN_le 8 (x/65536)
 obtain⟨p,hp1⟩:∃ p,x/2 &&& rep 85 8=p:=⟨_,rfl⟩
 obtain⟨q,hq1⟩:∃ q,x &&& rep 85 8=q:=⟨_,rfl⟩
 have pl:p<=x/2:=by rw [<- hp1];exact Nat.and_le_left
 have ql:q<=x:=by rw [<- hq1];exact Nat.and_le_left
 have hy:st1 8 x=p+q:=by unfold st1;rw [hp1,hq1]
 have f1:Go.bits .and .u64 ((x:Int)/2) 6148914691236517205=((p:Nat):Int):=by
  have:=u64_and_nat (x/2) (rep 85 8) (by omega) (by decide)
  rw [hp1] at this
  rw [<- this];rfl
 have f2:Go.bits .and .u64 (x:Int) 6148914691236517205=((q:Nat):Int):=by
  have:=u64_and_nat x (rep 85 8) (by omega) (by decide)
  rw [hq1] at this
  rw [<- this];rfl
 have f3:IntKind.u64.wrap (((p:Nat):Int)+((q:Nat):Int))=((p+q:Nat):Int):=by rw [wrapU _ (by omega) (by omega)];omega
 obtain⟨s,hs1⟩:∃ s,(p+q)/4 &&& rep 51 8=s:=⟨_,rfl⟩
 obtain⟨t,ht1⟩:∃ t,(p+q) &&& rep 51 8=t:=⟨_,rfl⟩
 have sl:s<=(p+q)/4:=by rw [<- hs1];exact Nat.and_le_left
 have tl:t<=p+q:=by rw [<- ht1];exact Nat.and_le_left
 have hy2:st2 8 (p+q)=s+t:=by unfold st2;rw [hs1,ht1]
 rw [hy,hy2] at hz
 have f4:Go.bits .and .u64 (((p+q:Nat):Int)/4) 3689348814741910323=((s:Nat):Int):=by
  have:=u64_and_nat ((p+q)/4) (rep 51 8) (by omega) (by decide)
  rw [hs1] at this
  rw [<- this];rfl
 have f5:Go.bits .and .u64 ((p+q:Nat):Int) 3689348814741910323=((t:Nat):Int):=by
  have:=u64_and_nat (p+q) (rep 51 8) (by omega) (by decide)
  rw [ht1] at this
  rw [<- this];rfl
 have f6:IntKind.u64.wrap (((s:Nat):Int)+((t:Nat):Int))=((s+t:Nat):Int):=by rw [wrapU _ (by omega) (by omega)];omega
 have f7:IntKind.u64.wrap (((s+t:Nat):Int)/16+((s+t:Nat):Int))=(((s+t)/16+(s+t):Nat):Int):=by rw [wrapU _ (by omega) (by omega)];omega
 obtain⟨u,hu⟩:∃ u,((s+t)/16+(s+t)) &&& rep 15 8=u:=⟨_,rfl⟩
 have f8:Go.bits .and .u64 (((s+t)/16+(s+t):Nat):Int) 1085102592571150095=((u:Nat):Int):=by
  have:=u64_and_nat ((s+t)/16+(s+t)) (rep 15 8) (by omega) (by decide)
  rw [hu] at this
  rw [<- this];rfl
 rw [hz,hs3] at hu
 have f9:IntKind.u64.wrap (((u:Nat):Int)+((u:Nat):Int)/256)=((u+u/256:Nat):Int):=by rw [wrapU _ (by omega) (by omega)];omega
 have f10:IntKind.u64.wrap (((u+u/256:Nat):Int)+((u+u/256:Nat):Int)/65536)=((u+u/256+(u+u/256)/65536:Nat):Int):=by rw [wrapU _ (by omega) (by omega)];omega
 obtain⟨v,hv⟩:∃ v,u+u/256+(u+u/256)/65536=v:=⟨_,rfl⟩
 rw [hv] at f10
 have f11:IntKind.u64.wrap (((v:Nat):Int)+((v:Nat):Int)/4294967296)=((v+v/4294967296:Nat):Int):=by rw [wrapU _ (by omega) (by omega)];omega
 obtain⟨z,hzz⟩:∃ z,v+v/4294967296=z:=⟨_,rfl⟩
 rw [hzz] at f11
 have f12:wrap64 ((z:Nat):Int)=((z:Nat):Int):=by unfold wrap64;omega
 have f13:Go.bits .and .i64 ((z:Nat):Int) 127=((pcN 64 x:Nat):Int):=by
  have:=sum3 (pcN 8 (x%256)) (pcN 8 (x/256%256)) (pcN 8 (x/65536)) u v z l0 l1 l2 hu.symm hv.symm hzz.symm
  rw [i64_and127,hp,<- this]
  rfl
 unfold F.bits_OnesCount64.f
 simp only [f1,f2,f3,f4,f5,f6,f7,f8,f9,f10,f11,f12,f13]
theorem bitsDiff (a b:Nat)(ha:a<16777216)(hb:b<16777216):F.decoder_FormatInformation_NumBitsDiffering.f (a:Int) (b:Int)=some ((hd a b:Nat):Int):=by
 unfold F.decoder_FormatInformation_NumBitsDiffering.f F.bits_OnesCount.f
 rw [u64_xor_nat a b (by omega) (by omega),oc64 _ (Nat.xor_lt_two_pow (n:=24) ha hb)]
 rfl
def rsz (wd:Nat):Nat:=(wd+31)/32
def wbit (xs:List Int)(rs x y:Nat):Bool:=(rd xs ((y*rs+x/32:Nat):Int)).toNat.testBit (x%32)
structure GW (wd ht:Nat)(xs:List Int)(f:Nat->Nat->Bool):Prop where
 len:xs.length=rsz wd*ht
 lim:∀ v∈xs,0<=v/\v<4294967296
 bit:∀ x y,x<wd->y<ht->wbit xs (rsz wd) x y=f x y
theorem GW.congr {wd ht:Nat}{xs:List Int}{f h:Nat->Nat->Bool}(G:GW wd ht xs f)(e:∀ x y,x<wd->y<ht->f x y=h x y):GW wd ht xs h :=
 ⟨G.len,G.lim,fun x y hx hy=>(G.bit x y hx hy).trans (e x y hx hy)⟩
theorem rd_lim {xs:List Int}(h:∀ v∈xs,0<=v/\v<4294967296)(i:Int):0<=rd xs i/\rd xs i<4294967296:=by
 unfold rd
 rw [List.getD_eq_getElem?_getD]
 cases e:xs[i.toNat]? with
 | none=>exact⟨by simp,by simp⟩
 | some v=>exact h v (List.mem_of_getElem? e)
theorem rd_set (xs:List Int)(i:Nat)(v:Int)(j:Nat)(h:i<xs.length):rd (xs.set i v) (j:Int)=if i=j then v else rd xs j:=by
 unfold rd
 rw [Int.toNat_natCast,List.getD_eq_getElem?_getD,List.getD_eq_getElem?_getD,List.getElem?_set]
 by_cases e:i=j
 ·subst e;simp [h]
 ·simp [e]
theorem pow_lim (k:Nat)(h:k<32):(0:Int)<=((2 ^ k:Nat):Int)/\((2 ^ k:Nat):Int)<4294967296:=by
 have:(2 ^ k:Nat)<4294967296:=Nat.lt_of_lt_of_le (Nat.pow_lt_pow_right (by omega) h) (Nat.le_refl _)
 generalize (2 ^ k:Nat)=n at *
 omega
theorem pow_mask (k:Nat)(h:k<32):(2:Int) ^ k%4294967296=((2 ^ k:Nat):Int):=by
 have e:(2:Int) ^ k=((2 ^ k:Nat):Int):=by rw [Int.natCast_pow];rfl
 obtain⟨h1,h2⟩:=pow_lim k h
 rw [e]
 exact Int.emod_eq_of_lt h1 h2
theorem word_lt (wd ht x y:Nat)(hx:x<wd)(hy:y<ht):y*rsz wd+x/32<rsz wd*ht:=by
 have h1:x/32<rsz wd:=by unfold rsz;omega
 have h2:(y+1)*rsz wd<=ht*rsz wd:=Nat.mul_le_mul_right _ hy
 rw [Nat.add_mul,Nat.one_mul] at h2
 rw [Nat.mul_comm (rsz wd) ht]
 omega
theorem word_inj (wd x y a c:Nat)(hx:x<wd)(ha:a<wd)(h:y*rsz wd+x/32=c*rsz wd+a/32):y=c/\x/32=a/32:=by
 have h1:x/32<rsz wd:=by unfold rsz;omega
 have h2:a/32<rsz wd:=by unfold rsz;omega
 have e1:(y*rsz wd+x/32)/rsz wd=(c*rsz wd+a/32)/rsz wd:=by rw [h]
 have hp:0<rsz wd:=by omega
 rw [Nat.mul_comm y,Nat.mul_comm c,Nat.mul_add_div hp,Nat.mul_add_div hp,Nat.div_eq_of_lt h1,Nat.div_eq_of_lt h2] at e1
 have:y=c:=by omega
 subst this
 exact⟨rfl,by omega⟩
theorem GW.turn {wd ht:Nat}{xs:List Int}{f:Nat->Nat->Bool}(G:GW wd ht xs f)(x y:Nat)(hx:x<wd)(hy:y<ht)(v:Nat)(hv:v<4294967296)(b:Bool)
  (hb:∀ k,k<32->v.testBit k=if k=x%32 then b else (rd xs ((y*rsz wd+x/32:Nat):Int)).toNat.testBit k) :
  GW wd ht (xs.set (y*rsz wd+x/32) (v:Int)) (fun a c=>if a=x/\c=y then b else f a c):=by
 have hlt:=word_lt wd ht x y hx hy
 refine⟨by rw [List.length_set,G.len],?_,?_⟩
 ·intro u hu
  rcases List.mem_or_eq_of_mem_set hu with h | h
  ·exact G.lim u h
  ·subst h;omega
 ·intro a c ha hc
  unfold wbit
  rw [rd_set _ _ _ _ (by rw [G.len];exact hlt)]
  by_cases e:y*rsz wd+x/32=c*rsz wd+a/32
  ·obtain⟨rfl,e2⟩:=word_inj wd x y a c hx ha e
   rw [if_pos e,Int.toNat_natCast,hb _ (by omega)]
   by_cases e3:a=x
   ·subst e3
    rw [if_pos rfl,if_pos ⟨rfl,rfl⟩]
   ·rw [if_neg (by omega),if_neg (by rintro⟨h,_⟩;exact e3 h),e2]
    exact G.bit a y ha hy
  ·rw [if_neg e,if_neg]
   ·exact G.bit a c ha hc
   ·rintro⟨rfl,rfl⟩;exact e rfl
theorem or_bit (a k:Nat)(ha:a<4294967296)(hk:k<32):(a ||| 2 ^ k)<4294967296/\∀ i,i<32->(a ||| 2 ^ k).testBit i=if i=k then true else a.testBit i:=by
 have h2:2 ^ k<4294967296:=Nat.lt_of_lt_of_le (Nat.pow_lt_pow_right (by omega) hk) (Nat.le_refl _)
 refine⟨Nat.or_lt_two_pow (n:=32) ha h2,fun i hi=>?_⟩
 rw [Nat.testBit_or,Nat.testBit_two_pow]
 by_cases e:i=k
 ·subst e;simp
 ·rw [if_neg e];simp [show ¬ k=i from fun h=>e h.symm]
theorem xor_bit (a k:Nat)(ha:a<4294967296)(hk:k<32):(a ^^^ 2 ^ k)<4294967296/\∀ i,i<32->(a ^^^ 2 ^ k).testBit i=if i=k then !a.testBit k else a.testBit i:=by
 have h2:2 ^ k<4294967296:=Nat.lt_of_lt_of_le (Nat.pow_lt_pow_right (by omega) hk) (Nat.le_refl _)
 refine⟨Nat.xor_lt_two_pow (n:=32) ha h2,fun i hi=>?_⟩
 rw [Nat.testBit_xor,Nat.testBit_two_pow]
 by_cases e:i=k
 ·subst e;simp
 ·rw [if_neg e];simp [show ¬ k=i from fun h=>e h.symm]
theorem u32_mask (x:Nat):(2:Int) ^ (((x:Nat):Int)%32).toNat%4294967296=((2 ^ (x%32):Nat):Int):=by
 rw [show (((x:Nat):Int)%32).toNat=x%32 by omega]
 exact pow_mask _ (by omega)
theorem at_word' (y rs x:Nat):((y*rs:Nat):Int)+(x:Int)/32=((y*rs+x/32:Nat):Int):=by omega
theorem GW.or {wd ht:Nat}{xs:List Int}{f:Nat->Nat->Bool}(G:GW wd ht xs f)(x y:Nat)(hx:x<wd)(hy:y<ht) :
  GW wd ht (orBit xs ((y*rsz wd:Nat):Int) (x:Int)) (fun a c=>if a=x/\c=y then true else f a c):=by
 unfold orBit
 obtain⟨l1,l2⟩:=rd_lim G.lim ((y*rsz wd+x/32:Nat):Int)
 rw [u32_mask,at_word',Int.toNat_natCast,u32_or _ _ l1 l2 (pow_lim (x%32) (by omega)).1 (pow_lim (x%32) (by omega)).2,Int.toNat_natCast]
 obtain⟨o1,o2⟩:=or_bit (rd xs ((y*rsz wd+x/32:Nat):Int)).toNat (x%32) (by omega) (by omega)
 exact G.turn x y hx hy _ o1 true o2
theorem GW.xor {wd ht:Nat}{xs:List Int}{f:Nat->Nat->Bool}(G:GW wd ht xs f)(x y:Nat)(hx:x<wd)(hy:y<ht) :
  GW wd ht (xorBit xs ((y*rsz wd:Nat):Int) (x:Int)) (fun a c=>if a=x/\c=y then !f a c else f a c):=by
 unfold xorBit
 obtain⟨l1,l2⟩:=rd_lim G.lim ((y*rsz wd+x/32:Nat):Int)
 rw [u32_mask,at_word',Int.toNat_natCast,u32_xor _ _ l1 l2 (pow_lim (x%32) (by omega)).1 (pow_lim (x%32) (by omega)).2,Int.toNat_natCast]
 obtain⟨o1,o2⟩:=xor_bit (rd xs ((y*rsz wd+x/32:Nat):Int)).toNat (x%32) (by omega) (by omega)
 refine (G.turn x y hx hy _ o1 _ o2).congr ?_
 intro a c ha hc
 by_cases e:a=x/\c=y
 ·rw [if_pos e,if_pos e,e.1,e.2]
  congr 1
  exact G.bit x y hx hy
 ·rw [if_neg e,if_neg e]
theorem GW.get {wd ht:Nat}{xs:List Int}{f:Nat->Nat->Bool}(G:GW wd ht xs f)(x y:Nat)(hx:x<wd)(hy:y<ht) :
  (Go.bits .and .u32 (rd xs (((y*rsz wd:Nat):Int)+(x:Int)/32)/2 ^ (((x:Nat):Int)%32).toNat) 1 != 0)=f x y:=by
 obtain⟨l1,l2⟩:=rd_lim G.lim ((y*rsz wd+x/32:Nat):Int)
 rw [at_word',show (((x:Nat):Int)%32).toNat=x%32 by omega]
 have hb:=G.bit x y hx hy
 unfold wbit at hb
 obtain⟨a,ha⟩:=Int.eq_ofNat_of_zero_le l1
 rw [ha] at hb l2 ⊢
 rw [Int.toNat_natCast] at hb
 have e:((a:Int)/2 ^ (x%32))=((a/2 ^ (x%32):Nat):Int):=by
  rw [Int.natCast_ediv,Int.natCast_pow];rfl
 have hle:a/2 ^ (x%32)<=a:=Nat.div_le_self _ _
 have e1:=u32_and_nat (a/2 ^ (x%32)) 1 (by omega) (by omega)
 rw [e,show (1:Int)=((1:Nat):Int) from rfl,e1,<- hb,Nat.testBit_eq_decide_div_mod_eq,Nat.and_one_is_mod]
 by_cases h:a/2 ^ (x%32)%2=1
 ·rw [h];rfl
 ·rw [show a/2 ^ (x%32)%2=0 by omega];rfl
theorem GW.zero (wd ht:Nat):GW wd ht (List.replicate (rsz wd*ht) 0) (fun _ _=>false):=by
 refine⟨List.length_replicate,?_,?_⟩
 ·intro v hv
  rw [List.mem_replicate] at hv
  omega
 ·intro x y hx hy
  unfold wbit rd
  have h:=word_lt wd ht x y hx hy
  rw [Int.toNat_natCast,List.getD_eq_getElem?_getD,List.getElem?_replicate,if_pos h]
  simp
theorem GW.row {wd ht:Nat}(y left:Nat)(hy:y<ht):∀ (n:Nat) {xs:List Int} {f:Nat->Nat->Bool},left+n<=wd->GW wd ht xs f->
  GW wd ht (sregX xs ((y*rsz wd:Nat):Int) (left:Int) n) (fun a c=>if left<=a/\a<left+n/\c=y then true else f a c):=by
 intro n
 induction n with
 | zero=>
  intro xs f _ G
  refine G.congr fun a c _ _=>?_
  rw [if_neg (by omega)]
 | succ n ih=>
  intro xs f h G
  rw [sregX,show ((left:Nat):Int)+((n:Nat):Int)=((left+n:Nat):Int) by omega]
  refine ((ih (by omega) G).or (left+n) y (by omega) hy).congr fun a c _ _=>?_
  by_cases e:a=left+n/\c=y
  ·rw [if_pos e,if_pos (by omega)]
  ·rw [if_neg e]
   by_cases e2:left<=a/\a<left+n/\c=y
   ·rw [if_pos e2,if_pos (by omega)]
   ·rw [if_neg e2,if_neg (by omega)]
theorem GW.region {wd ht:Nat}(left n top:Nat)(hn:left+n<=wd):∀ (m:Nat) {xs:List Int} {f:Nat->Nat->Bool},top+m<=ht->GW wd ht xs f->
  GW wd ht (sreg xs ((rsz wd:Nat):Int) (left:Int) n (top:Int) m) (fun a c=>inReg left top n m a c || f a c):=by
 intro m
 induction m with
 | zero=>
  intro xs f _ G
  refine G.congr fun a c _ _=>?_
  rw [show inReg left top n 0 a c=false from by unfold inReg;rw [decide_eq_false_iff_not];omega,Bool.false_or]
 | succ m ih=>
  intro xs f h G
  rw [sreg,show (((top:Nat):Int)+((m:Nat):Int))*((rsz wd:Nat):Int)=(((top+m)*rsz wd:Nat):Int) by rw [Int.natCast_mul,Int.natCast_add]]
  refine (GW.row (top+m) left (by omega) n hn (ih (by omega) G)).congr fun a c _ _=>?_
  unfold inReg
  by_cases e:left<=a/\a<left+n/\c=top+m
  ·rw [if_pos e,decide_eq_true (by omega),Bool.true_or]
  ·rw [if_neg e]
   congr 1
   rw [decide_eq_decide]
   omega
def Grid (w:World)(g b wd ht:Nat)(f:Nat->Nat->Bool):Prop:=∃ xs:List Int,
 Blk w g 201 #[.int .i64 (wd:Int),.int .i64 (ht:Int),.int .i64 (rsz wd:Int),.slice (some ⟨b,0,none⟩) (rsz wd*ht) (rsz wd*ht)]/\Blk w b 214 (nums .u32 xs).toArray/\GW wd ht xs f
theorem Grid.congr {w:World}{g b wd ht:Nat}{f h:Nat->Nat->Bool}(G:Grid w g b wd ht f)(e:∀ x y,x<wd->y<ht->f x y=h x y):Grid w g b wd ht h:=by
 obtain⟨xs,h1,h2,h3⟩:=G
 exact⟨xs,h1,h2,h3.congr e⟩
theorem Grid.ne {w:World}{g b wd ht:Nat}{f:Nat->Nat->Bool}(G:Grid w g b wd ht f):g≠b:=by
 obtain⟨xs,h1,h2,h3⟩:=G
 exact blk_ne h1 h2 (by decide)
theorem Grid.keep {w w':World}{g b wd ht:Nat}{f:Nat->Nat->Bool}(G:Grid w g b wd ht f)(hg:w'.heap[g]? = w.heap[g]?)(hb:w'.heap[b]? = w.heap[b]?):Grid w' g b wd ht f:=by
 obtain⟨xs,h1,h2,h3⟩:=G
 exact⟨xs,hg.trans h1,hb.trans h2,h3⟩
theorem Grid.lt {w:World}{g b wd ht:Nat}{f:Nat->Nat->Bool}(G:Grid w g b wd ht f):g<w.heap.size/\b<w.heap.size:=by
 obtain⟨xs,h1,h2,h3⟩:=G
 exact⟨h1.lt,h2.lt⟩
theorem Grid.below {w w':World}{g b wd ht B:Nat}{f:Nat->Nat->Bool}(G:Grid w g b wd ht f)(hb:Below B w w')(h1:g<B)(h2:b<B):Grid w' g b wd ht f:=G.keep (hb.block g h1) (hb.block b h2)
theorem small_mul (wd ht:Nat)(h1:wd<=1000)(h2:ht<=1000):rsz wd*ht<=1000000:=Nat.le_trans (Nat.mul_le_mul (show rsz wd<=1000 by unfold rsz;omega) h2) (by omega)
theorem rsz_int (wd:Nat):((wd:Int)+31)/32=((rsz wd:Nat):Int):=by unfold rsz;omega
theorem gridSet (w:World)(g b wd ht:Nat)(f:Nat->Nat->Bool)(x y:Nat)(G:Grid w g b wd ht f)(hx:x<wd)(hy:y<ht)(hw:wd<=1000)(hh:ht<=1000) :
  Calls Tryz.prog 148 #[.pointer (some ⟨g,0,none⟩),.int .i64 (x:Int),.int .i64 (y:Int)] w fun e w'=>e=.returned (.tuple #[])/\Grid w' g b wd ht (fun a c=>if a=x/\c=y then true else f a c)/\Turn w w' b:=by
 have hne:=G.ne
 obtain⟨xs,h1,h2,h3⟩:=G
 have:=word_lt wd ht x y hx hy
 have:=small_mul wd ht hw hh
 refine (bmSet w g b wd ht (rsz wd:Nat) x y ((y*rsz wd:Nat):Int) xs (rsz wd*ht) h1 h2 h3.len (by omega) (by rw [Int.natCast_mul]) (by omega) (by omega) (by omega) (by omega)).mono ?_
 rintro e w' ⟨rfl,k1,k2⟩
 exact⟨rfl,⟨_,k2.blk h1 hne,k1,h3.or x y hx hy⟩,k2⟩
theorem gridFlip (w:World)(g b wd ht:Nat)(f:Nat->Nat->Bool)(x y:Nat)(G:Grid w g b wd ht f)(hx:x<wd)(hy:y<ht)(hw:wd<=1000)(hh:ht<=1000) :
  Calls Tryz.prog 140 #[.pointer (some ⟨g,0,none⟩),.int .i64 (x:Int),.int .i64 (y:Int)] w fun e w'=>e=.returned (.tuple #[])/\Grid w' g b wd ht (fun a c=>if a=x/\c=y then !f a c else f a c)/\Turn w w' b:=by
 have hne:=G.ne
 obtain⟨xs,h1,h2,h3⟩:=G
 have:=word_lt wd ht x y hx hy
 have:=small_mul wd ht hw hh
 refine (bmFlip w g b wd ht (rsz wd:Nat) x y ((y*rsz wd:Nat):Int) xs (rsz wd*ht) h1 h2 h3.len (by omega) (by rw [Int.natCast_mul]) (by omega) (by omega) (by omega) (by omega)).mono ?_
 rintro e w' ⟨rfl,k1,k2⟩
 exact⟨rfl,⟨_,k2.blk h1 hne,k1,h3.xor x y hx hy⟩,k2⟩
theorem gridGet (w:World)(g b wd ht:Nat)(f:Nat->Nat->Bool)(x y:Nat)(G:Grid w g b wd ht f)(hx:x<wd)(hy:y<ht)(hw:wd<=1000)(hh:ht<=1000) :
  Calls Tryz.prog 94 #[.pointer (some ⟨g,0,none⟩),.int .i64 (x:Int),.int .i64 (y:Int)] w fun e w'=>e=.returned (.bool (f x y))/\w=w':=by
 obtain⟨xs,h1,h2,h3⟩:=G
 have:=word_lt wd ht x y hx hy
 have:=small_mul wd ht hw hh
 refine (bmGet w g b wd ht (rsz wd:Nat) x y ((y*rsz wd:Nat):Int) xs (rsz wd*ht) h1 h2 h3.len (by omega) (by rw [Int.natCast_mul]) (by omega) (by omega) (by omega) (by omega) (by omega) (by omega) (by omega)).mono ?_
 rintro e w' ⟨rfl,k⟩
 exact⟨by rw [h3.get x y hx hy],k⟩
theorem gridNew (w:World)(wd ht:Nat)(h1:1<=wd)(h2:1<=ht)(hw:wd<=1000)(hh:ht<=1000) :
  Calls Tryz.prog 147 #[.int .i64 (wd:Int),.int .i64 (ht:Int)] w fun e w'=>e=.returned (.tuple #[.pointer (some ⟨w.heap.size+1,0,none⟩),.nilIface])/\Grid w' (w.heap.size+1) w.heap.size wd ht (fun _ _=>false)/\Below w.heap.size w w':=by
 have:=small_mul wd ht hw hh
 refine (newBM w wd ht ((rsz wd:Nat):Int) (rsz wd*ht) (by omega) (by omega) (by omega) (rsz_int wd) (by rw [Int.natCast_mul]) (by omega)).mono ?_
 rintro e w' ⟨rfl,rfl⟩
 refine⟨rfl,⟨_,?_,?_,GW.zero wd ht⟩,(Below.refl _ _).alloc (Nat.le_refl _) _ |> fun h=>h.alloc h.size _⟩
 ·have:=Blk.new (w.alloc (.cells (nums .u32 (List.replicate (rsz wd*ht) 0)).toArray 214)) 201 #[.int .i64 wd,.int .i64 ht,.int .i64 (rsz wd:Nat),.slice (some ⟨w.heap.size,0,none⟩) (rsz wd*ht) (rsz wd*ht)]
  simpa using this
 ·exact (Blk.new w _ _).alloc _
theorem gridRegion (w:World)(g b wd ht left top n m:Nat)(f:Nat->Nat->Bool)(G:Grid w g b wd ht f)(h2:1<=n)(h3:1<=m)(h4:left+n<=wd)(h5:top+m<=ht)(hw:wd<=1000)(hh:ht<=1000) :
  Calls Tryz.prog 142 #[.pointer (some ⟨g,0,none⟩),.int .i64 (left:Int),.int .i64 (top:Int),.int .i64 (n:Int),.int .i64 (m:Int)] w fun e w'=>e=.returned .nilIface/\
   Grid w' g b wd ht (fun a c=>inReg left top n m a c || f a c)/\Turn w w' b:=by
 have hne:=G.ne
 obtain⟨xs,k1,k2,k3⟩:=G
 have:=small_mul wd ht hw hh
 refine (setRegion w g b wd ht (rsz wd:Nat) left top n m xs (rsz wd*ht) k1 k2 k3.len (by omega) (rsz_int wd) (by rw [Int.natCast_mul]) (by omega) (by omega) (by omega) (by omega) (by omega) (by omega) (by omega) (by omega)).mono ?_
 rintro e w' ⟨rfl,l1,l2⟩
 refine⟨rfl,⟨_,l2.blk k1 hne,l1,?_⟩,l2⟩
 rw [Int.toNat_natCast,Int.toNat_natCast]
 exact GW.region left n top h4 m h5 k3
abbrev BRows (w:World)(A:Option Addr)(rows:List (List Bool)):Prop:=Kd.C (Kd.slice 4 Kd.bool) w A rows.length rows
def cellOf (rows:List (List Bool))(x y:Nat):Bool:=(rows.getD y []).getD x false
theorem BRows.at_ {w:World}{A:Option Addr}{rows:List (List Bool)}(h:BRows w A rows)(y:Nat)(hy:y<rows.length) :
  ∃ ad Ay cy,A=some ad/\w.cell? (ad.add y)=some (.slice Ay (rows.getD y []).length cy)/\(rows.getD y []).length<=cy/\Kd.C Kd.bool w Ay (rows.getD y []).length (rows.getD y []):=by
 obtain⟨ad,c,hA,hl,⟨Ay,cy,hc,hle,hC⟩,hg⟩:=Kd.C_get h [] (y:Int) (by omega) (by omega)
 rw [Int.toNat_natCast] at hc hle hC hg
 refine⟨ad,Ay,cy,hA,?_,hle,hC⟩
 have:=hg 0 (.slice Ay (rows.getD y []).length cy) (by rw [hc];rfl)
 rw [show y*(Kd.slice 4 Kd.bool).sz+0=y by show y*1+0=y;omega] at this
 exact this
theorem bools_at {w:World}{A:Option Addr}{xs:List Bool}(h:Kd.C Kd.bool w A xs.length xs)(x:Nat)(hx:x<xs.length):∃ ax,A=some ax/\w.cell? (ax.add x)=some (.bool (xs.getD x false)):=by
 obtain⟨ad,c,hA,hl,hc,hg⟩:=Kd.C_get h false (x:Int) (by omega) (by omega)
 rw [Int.toNat_natCast] at hc hg
 refine⟨ad,hA,?_⟩
 have:=hg 0 (.bool (xs.getD x false)) (by rw [show c=[.bool (xs.getD x false)] from hc];rfl)
 rw [show x*Kd.bool.sz+0=x by show x*1+0=x;omega] at this
 exact this
set_option maxHeartbeats 1000000 in
theorem parseMap (w:World)(A:Option Addr)(c:Nat)(rows:List (List Bool))(wd ht:Nat)(hr:BRows w A rows)(hc:rows.length<=c)(hn:rows.length=ht)(h1:1<=ht)(h2:ht<=1000)
  (hw:(rows.getD 0 []).length=wd) (h3:1<=wd) (h4:wd<=1000) (hrow:∀ y,y<ht->wd<=(rows.getD y []).length/\(rows.getD y []).length<=1000000) :
  Calls Tryz.prog 125 #[.slice A ht c] w fun e w'=>e=.returned (.tuple #[.pointer (some ⟨w.heap.size+1,0,none⟩),.nilIface])/\Grid w' (w.heap.size+1) w.heap.size wd ht (cellOf rows)/\Below w.heap.size w w':=by
 subst hn
 obtain⟨ad,A0,c0,rfl,k0,_,_⟩:=hr.at_ 0 (by omega)
 rw [hw] at k0
 have hc0:ad.add 0=ad:=by unfold Addr.add;simp
 rw [hc0] at k0
 have HR:=Aside0.mk hr
 have HROW:=Aside0.mk hrow
 have HW:=Aside0.mk hw
 clear hr hrow hw hc0
 obtain⟨ht,hht⟩:∃ ht,rows.length=ht:=⟨_,rfl⟩
 rw [hht] at h1 h2 hc ⊢
 have HT:=Aside0.mk hht
 clear hht
 have hgt:decide (0<(ht:Int))=true:=decide_eq_true (by omega)
 have hgt':decide (0<ht)=true:=decide_eq_true (by omega)
 go_enter Tryz.func125,Tryz.ntmps125
 go_wp2_with (go_at_call 147;refine (gridNew _ wd ht h3 h1 h4 h2).mono ?_;rintro e w' ⟨rfl,hG,hB⟩)
 have HG:=Aside0.mk hG
 have HB:=Aside0.mk hB
 clear hG hB k0 hgt hgt'
 go_loopw [8] (fun v wr=>∃ i:Nat,i<=ht/\v=.int .i64 (i:Int)/\Aside0 (Grid wr (w.heap.size+1) w.heap.size wd ht (fun x y=>decide (y<i) && cellOf rows x y))/\Aside0 (Below w.heap.size w wr)) (fun v _=>(ht-intOf v).toNat)
 case atStart=>exact⟨0,Nat.zero_le _,rfl,⟨HG.out.congr fun x y _ _=>by simp⟩,HB⟩
 case round=>
  obtain⟨i,hi,rfl,HGr,HBr⟩:=hrel
  by_cases hlt:i<ht
  ·obtain⟨ad',Ay,cy,e1,ki0,hle,hC⟩:=HR.out.at_ i (by have:=HT.out;omega)
   obtain rfl:ad=ad':=Option.some.inj e1
   have ki:=pw_cell_below HBr.out ki0
   obtain⟨hl1,hl2⟩:=HROW.out i (by have:=HT.out;omega)
   have HC:=Aside0.mk hC
   obtain⟨len,hlen⟩:∃ len,(rows.getD i []).length=len:=⟨_,rfl⟩
   rw [hlen] at ki hle hl1 hl2
   have HLEN:=Aside0.mk hlen
   clear e1 hC hlen ki0
   go_wp2
   obtain⟨wo,rfl⟩:∃ wo:World,wo=wr:=⟨_,rfl⟩
   clear ki
   go_loopw [10] (fun v wi=>∃ j:Nat,j<=wd/\v=.int .i64 (j:Int)/\Aside0 (Grid wi (w.heap.size+1) w.heap.size wd ht (fun x y=>decide (y<i\/y=i/\x<j) && cellOf rows x y))/\Aside0 (Turn wo wi w.heap.size)/\Aside0 (Below w.heap.size w wi)) (fun v _=>(wd-intOf v).toNat)
   case atStart=>exact⟨0,Nat.zero_le _,rfl,⟨HGr.out.congr fun x y _ _=>by simp⟩,⟨Turn.refl _ _⟩,HBr⟩
   case round=>
    obtain⟨j,hj,rfl,HGi,HTi,HBi⟩:=hrel
    by_cases hlj:j<wd
    ·obtain⟨ax,e2,kj⟩:=bools_at (Kd.C_below HC.out HBi.out) j (by have:=HLEN.out;omega)
     subst e2
     have hmul:j<=len:=by omega
     have hjl:decide (j<len)=true:=decide_eq_true (by omega)
     by_cases hbit:cellOf rows j i=true
     ·have hv:(rows.getD i []).getD j false=true:=hbit
      rw [hv] at kj
      have HV:=Aside0.mk hbit
      clear hv hbit
      go_wp2_with (go_at_call 148;refine (gridSet _ _ _ wd ht _ j i HGi.out hlj hlt h4 h2).mono ?_;rintro e w' ⟨rfl,hG2,hT2⟩)
      go_roundw
      case rel=>exact⟨j+1,by omega,by go_num,⟨hG2.congr fun x y hx hy=>by
       by_cases e:x=j/\y=i
       ·rw [if_pos e,e.1,e.2,HV.out,decide_eq_true (by omega)];rfl
       ·rw [if_neg e];congr 1;rw [decide_eq_decide];omega⟩,⟨HTi.out.trans hT2⟩,⟨HBi.out.trans (hT2.below (Nat.le_refl _))⟩⟩
      case measure=>simp [intOf];omega
     ·have hbit:cellOf rows j i=false:=by simpa using hbit
      have hv:(rows.getD i []).getD j false=false:=hbit
      rw [hv] at kj
      have HV:=Aside0.mk hbit
      clear hv hbit
      go_wp2
      go_roundw
      case rel=>exact⟨j+1,by omega,by go_num,⟨HGi.out.congr fun x y hx hy=>by
       by_cases e:x=j/\y=i
       ·rw [e.1,e.2,HV.out,Bool.and_false,Bool.and_false]
       ·congr 1;rw [decide_eq_decide];omega⟩,HTi,HBi⟩
      case measure=>simp [intOf];omega
    ·have:j=wd:=by omega
     subst this
     go_wp2
     go_roundw
     case rel=>exact⟨i+1,by omega,by go_num,⟨HGi.out.congr fun x y hx hy=>by congr 1;rw [decide_eq_decide];omega⟩,HBi⟩
     case measure=>simp [intOf];omega
  ·have:i=ht:=by omega
   subst this
   go_wp2
   go_ret2
   exact⟨rfl,HGr.out.congr fun x y hx hy=>by rw [decide_eq_true (by omega),Bool.true_and],HBr.out⟩
theorem ints_at {w:World}{k:IntKind}{A:Option Addr}{xs:List Int}{n:Nat}(h:Kd.C (Kd.int k) w A n xs)(x:Nat)(hx:x<n):∃ ax,A=some ax/\w.cell? (ax.add x)=some (.int k (xs.getD x 0)):=by
 obtain⟨ad,c,hA,hl,hc,hg⟩:=Kd.C_get h 0 (x:Int) (by omega) (by omega)
 rw [Int.toNat_natCast] at hc hg
 refine⟨ad,hA,?_⟩
 have:=hg 0 (.int k (xs.getD x 0)) (by rw [show c=[.int k (xs.getD x 0)] from hc];rfl)
 rw [show x*(Kd.int k).sz+0=x by show x*1+0=x;omega] at this
 exact this
theorem verNum_ok (w:World)(n:Nat)(h:1<=n/\n<=40) :
  Calls Tryz.prog 60 #[.int .i64 (n:Int)] w fun e w'=>∃ p,e=.returned (.tuple #[.pointer (some ⟨p,0,none⟩),.nilIface])/\w.heap.size<=p/\VerAt w' p (n:Int) (verRow n)/\Below w.heap.size w w':=by
 have k:=versionOf_any w n h
 obtain⟨h1,h2⟩:=h
 go_enter Tryz.func60,Tryz.ntmps60
 go_wp2_with (go_at_call 104;refine k.mono ?_;rintro e w' ⟨p,rfl,hp,hv,hb⟩)
 have HV:=Aside0.mk hv
 clear hv
 go_ret2
 exact⟨p,rfl,hp,HV.out,hb⟩
def verTabI:List Int:=verTabN.map fun (n:Nat)=>(n:Int)
theorem verTabI_eq:F.decoder_VERSION_DECODE_INFO.f=some verTabI:=by decide +kernel
theorem vdi_call (w:World):Calls Tryz.prog 127 #[] w fun e w'=>∃ ad c,e=.returned (.slice (some ad) 34 c)/\34<=c/\(∀ i,i<34->w'.cell? (ad.add i)=some (.int .i64 ((verTabN.getD i 0:Nat):Int)))/\ad.block<w'.heap.size/\Below w.heap.size w w':=by
 refine (F.decoder_VERSION_DECODE_INFO.calls verTabI w verTabI_eq).mono ?_
 rintro e w' ⟨v,rfl,hR,hB⟩
 obtain⟨A,c,rfl,hc,hC⟩:=Kd.R_reads hR
 have hC:Kd.C (Kd.int .i64) w' A 34 verTabI:=hC
 obtain⟨ax,rfl,h0⟩:=ints_at hC 0 (by omega)
 refine⟨ax,c,rfl,hc,?_,?_,hB⟩
 ·intro i hi
  obtain⟨ay,e,h⟩:=ints_at hC i hi
  obtain rfl:ax=ay:=Option.some.inj e
  have e2:verTabI.getD i 0=((verTabN.getD i 0:Nat):Int):=by
   unfold verTabI
   rw [List.getD_eq_getElem?_getD,List.getD_eq_getElem?_getD,List.getElem?_map]
   cases verTabN[i]?<;>rfl
  rw [e2] at h
  exact h
 ·have:=World.block_lt_of_cell? w' _ h0
  have e0:ax.add 0=ax:=by unfold Addr.add;simp
  rw [e0] at this
  exact this
theorem verTab_lim:∀ i:Fin 34,verTabN.getD i.val 0<262144:=by decide
def SomeVer (w:World)(n:Nat)(e:Ending)(w':World):Prop:=∃ p,e=.returned (.tuple #[.pointer (some ⟨p,0,none⟩),.nilIface])/\w.heap.size<=p/\VerAt w' p (n:Int) (verRow n)/\Below w.heap.size w w'
def bvOf (best idx bv:Nat):Prop:=best<=3->bv=idx+7
def goesOn (a k i best idx:Nat):Prop:=verGo a (verTabN.drop i) i (best,idx)=some k
theorem goesOn_step {a k i best idx:Nat}(hi:i<34)(h:goesOn a k i best idx):(verTabN.getD i 0=a/\i=k)\/(verTabN.getD i 0≠a/\goesOn a k (i+1) (nearStep a (verTabN.getD i 0) i (best,idx)).1 (nearStep a (verTabN.getD i 0) i (best,idx)).2):=by
 have hl:i<verTabN.length:=hi
 have hd:verTabN.drop i=verTabN.getD i 0 :: verTabN.drop (i+1):=by
  rw [List.drop_eq_getElem_cons hl,List.getD_eq_getElem?_getD,List.getElem?_eq_getElem hl]
  rfl
 unfold goesOn at h ⊢
 rw [hd,verGo] at h
 split at h
 ·exact .inl ⟨‹_›,Option.some.inj h⟩
 ·exact .inr ⟨‹_›,h⟩
set_option maxHeartbeats 1000000 in
theorem decVer (w:World)(a k:Nat)(hk:k<34)(ha:a<262144)(hd:hd a (verTabN.getD k 0)<=3) :
  Calls Tryz.prog 85 #[.int .i64 (a:Int)] w (SomeVer w (k+7)):=by
 have H0:=Aside0.mk (show goesOn a k 0 2147483647 0 from ver_found k a hk hd)
 clear hd
 go_enter Tryz.func85,Tryz.ntmps85
 go_wp2_with (go_at_call 127;refine (vdi_call _).mono ?_;rintro e w' ⟨ad,c,rfl,hc,hcell,hlt,hb⟩)
 have HC:=Aside0.mk hcell
 have HB:=Aside0.mk hb
 obtain⟨w1,rfl⟩:∃ w1:World,w1=w':=⟨_,rfl⟩
 clear hcell hb
 go_loopw [4,5,11] (fun vb vv vi wr=>∃ i best idx bv:Nat,i<=34/\vb=.int .i64 (best:Int)/\vv=.int .i64 (bv:Int)/\vi=.int .i64 (i:Int)/\best<=2147483647/\Aside0 (bvOf best idx bv)/\Aside0 (goesOn a k i best idx)/\bv<=100/\Aside0 (Below w1.heap.size w1 wr)) (fun _ _ vi _=>(34-intOf vi).toNat)
 case atStart=>exact⟨0,2147483647,0,0,by omega,rfl,rfl,rfl,by omega,⟨fun h=>by omega⟩,H0,by omega,⟨Below.refl _ _⟩⟩
 case round=>
  obtain⟨i,best,idx,bv,hi,rfl,rfl,rfl,hbest,HBV,HG,hbv,HBr⟩:=hrel
  by_cases hlt34:i<34
  ·have c0:wr.cell? (ad.add i)=some (.int .i64 ((verTabN.getD i 0:Nat):Int)):=by
    have:=HC.out i hlt34
    exact pw_cell_below HBr.out this
   obtain⟨t,ht⟩:∃ t,verTabN.getD i 0=t:=⟨_,rfl⟩
   have hlim:t<262144:=by rw [<- ht];exact verTab_lim ⟨i,hlt34⟩
   have hst:=goesOn_step hlt34 HG.out
   rw [ht] at c0 hst
   clear ht
   rcases hst with⟨e1,e2⟩ | ⟨e1,e2⟩
   ·subst e1
    have HE:=Aside0.mk e2
    clear e2
    go_wp2_with (go_at_call 60;refine (verNum_ok _ (i+7) (by omega)).mono ?_;rintro e w' ⟨p,rfl,hp,hv,hb⟩)
    have HV:=Aside0.mk hv
    clear hv
    go_ret2
    have hik:=HE.out
    subst hik
    refine⟨p,rfl,?_,HV.out,?_⟩
    ·have:=HB.out.size;have:=HBr.out.size;omega
    ·exact HB.out.trans ((HBr.out.mono HB.out.size).trans (hb.mono (Nat.le_trans HB.out.size HBr.out.size)))
   ·have ht2:((t:Int)==(a:Int))=false:=by simpa using (fun h:(t:Int)=(a:Int)=>e1 (by omega))
    have HE:=Aside0.mk e2
    have hdl:hd a t<=64:=pcN_le 64 _
    obtain⟨q,hq⟩:∃ q,hd a t=q:=⟨_,rfl⟩
    have hcall:=F.decoder_FormatInformation_NumBitsDiffering.calls a t _ wr (bitsDiff a t (by omega) (by omega))
    rw [hq] at hcall hdl
    have HQ:=Aside0.mk hq
    clear e1 e2 hq
    by_cases hless:q<best
    ·go_wp2_with (go_at_call 128;refine hcall.mono ?_;rintro e w' ⟨rfl,hdr⟩;obtain⟨nd,rfl⟩:=hdr.out)
     go_roundw
     case rel=>exact⟨i+1,q,i,i+7,by omega,rfl,by go_num,by go_num,by omega,⟨fun _=>rfl⟩,⟨by have:=HE.out;unfold nearStep at this;rw [HQ.out,if_pos hless] at this;exact this⟩,by omega,⟨pw_below_drewN HBr.out _⟩⟩
     case measure=>simp [intOf];omega
    ·go_wp2_with (go_at_call 128;refine hcall.mono ?_;rintro e w' ⟨rfl,hdr⟩;obtain⟨nd,rfl⟩:=hdr.out)
     go_roundw
     case rel=>exact⟨i+1,best,idx,bv,by omega,rfl,rfl,by go_num,by omega,HBV,⟨by have:=HE.out;unfold nearStep at this;rw [HQ.out,if_neg hless] at this;exact this⟩,hbv,⟨pw_below_drewN HBr.out _⟩⟩
     case measure=>simp [intOf];omega
  ·have:i=34:=by omega
   subst this
   have hfin:=HG.out
   unfold goesOn at hfin
   rw [show verTabN.drop 34=[] from rfl,verGo] at hfin
   split at hfin
   ·rename_i hb3
    have hb3:best<=3:=hb3
    have hbvk:bv=k+7:=by
     have:=HBV.out hb3
     have e:idx=k:=Option.some.inj hfin
     omega
    subst hbvk
    clear hfin
    go_wp2_with (go_at_call 60;refine (verNum_ok _ (k+7) (by omega)).mono ?_;rintro e w' ⟨p,rfl,hp,hv,hb⟩)
    have HV:=Aside0.mk hv
    clear hv
    go_ret2
    refine⟨p,rfl,?_,HV.out,?_⟩
    ·have:=HB.out.size;have:=HBr.out.size;omega
    ·exact HB.out.trans ((HBr.out.mono HB.out.size).trans (hb.mono (Nat.le_trans HB.out.size HBr.out.size)))
   ·cases hfin
theorem gridHeight (w:World)(g b wd ht:Nat)(f:Nat->Nat->Bool)(G:Grid w g b wd ht f) :
  Calls Tryz.prog 83 #[.pointer (some ⟨g,0,none⟩)] w fun e w'=>e=.returned (.int .i64 (ht:Int))/\w=w':=by
 obtain⟨xs,h1,h2,h3⟩:=G
 have c1:w.cell? ⟨g,1,none⟩=some (.int .i64 (ht:Int)):=h1.cell 1
 clear h1 h2 h3
 go_enter Tryz.func83,Tryz.ntmps83
 go_wp2
 go_ret
 exact⟨rfl,rfl⟩
theorem i64_and_nat (a b:Nat)(ha:a<4294967296)(hb:b<4294967296):Go.bits .and .i64 (a:Int) (b:Int)=((a &&& b:Nat):Int) :=
 (bits_nat .i64 32 (by decide) (fun n h0 h1=>by rw [IntKind.wrap_i64];omega) a b ha hb).1
theorem i64_or_nat (a b:Nat)(ha:a<4294967296)(hb:b<4294967296):Go.bits .or .i64 (a:Int) (b:Int)=((a ||| b:Nat):Int) :=
 (bits_nat .i64 32 (by decide) (fun n h0 h1=>by rw [IntKind.wrap_i64];omega) a b ha hb).2
theorem and3 (n:Nat)(h:n<=1000):Go.bits .and .i64 (n:Int) 3=((n%4:Nat):Int):=by
 have:=i64_and_nat n 3 (by omega) (by omega)
 rw [show (3:Int)=((3:Nat):Int) from rfl,this,show n &&& 3=n%4 from Nat.and_two_pow_sub_one_eq_mod (n:=2) n]
def parserCells (g:Nat):Array Value:=#[.pointer (some ⟨g,0,none⟩),.pointer none,.pointer none,.bool false]
theorem newParser_ok (w:World)(g b wd ht:Nat)(f:Nat->Nat->Bool)(G:Grid w g b wd ht f)(h1:21<=ht)(h2:ht<=1000)(h3:ht%4=1) :
  Calls Tryz.prog 82 #[.pointer (some ⟨g,0,none⟩)] w fun e w'=>e=.returned (.tuple #[.pointer (some ⟨w.heap.size,0,none⟩),.nilIface])/\w'=w.alloc (.cells (parserCells g) 144):=by
 have k:=gridHeight w g b wd ht f G
 have ha:(Go.bits .and .i64 (ht:Int) 3==1)=true:=by rw [and3 ht h2,h3];rfl
 have hb:(Go.bits .and .i64 (ht:Int) 3 != 1)=false:=by rw [and3 ht h2,h3];rfl
 clear h3 G
 go_enter Tryz.func82,Tryz.ntmps82
 go_wp2_with (go_at_call 83;refine k.mono ?_;rintro e w' ⟨rfl,rfl⟩)
 go_ret2
 exact⟨rfl,rfl⟩
def BadSize (ht:Nat):Prop:=ht<21\/ht%4≠1
theorem newParser_bad (w:World)(g b wd ht:Nat)(f:Nat->Nat->Bool)(G:Grid w g b wd ht f)(h2:ht<=1000)(h:BadSize ht) :
  Calls Tryz.prog 82 #[.pointer (some ⟨g,0,none⟩)] w fun e w'=>(∃ x,e=.returned (.tuple #[.pointer none,.iface 208 x]))/\Below w.heap.size w w':=by
 have k:=gridHeight w g b wd ht f G
 by_cases h1:ht<21
 ·clear h G
  go_enter Tryz.func82,Tryz.ntmps82
  go_wp2_with (first | (go_at_call 83;refine k.mono ?_;rintro e w' ⟨rfl,rfl⟩) | (go_at_call 89;refine (newFmt _ _).mono ?_;rintro e w' ⟨⟨x,rfl⟩,hb⟩))
  go_ret2
  refine⟨⟨x,rfl⟩,?_⟩
  have:=hb.trans (Below.refl _ _)
  exact (((Below.refl _ _).alloc (Nat.le_refl _) _).trans (hb.mono (by simp)))
 ·have h3:ht%4≠1:=by rcases h with h | h;exact absurd h h1;exact h
  have hz:Go.bits .and .i64 (ht:Int) 3≠1:=by rw [and3 ht h2];omega
  have ha:(Go.bits .and .i64 (ht:Int) 3==1)=false:=by simpa using hz
  have hb:(Go.bits .and .i64 (ht:Int) 3 != 1)=true:=by simpa using hz
  clear h3 hz h G
  go_enter Tryz.func82,Tryz.ntmps82
  go_wp2_with (first | (go_at_call 83;refine k.mono ?_;rintro e w' ⟨rfl,rfl⟩) | (go_at_call 89;refine (newFmt _ _).mono ?_;rintro e w' ⟨⟨x,rfl⟩,hb⟩))
  go_ret2
  refine⟨⟨x,rfl⟩,?_⟩
  exact (((Below.refl _ _).alloc (Nat.le_refl _) _).trans (hb.mono (by simp)))
theorem ret_i {k:IntKind}{a b:Int}(h:a=b):Ending.returned (.int k a)=.returned (.int k b):=by rw [h]
theorem or_one (v:Nat):2*v ||| 1=2*v+1:=by
 apply Nat.eq_of_testBit_eq
 intro i
 rw [Nat.testBit_or]
 cases i with
 | zero=>simp
 | succ i=>rw [Nat.testBit_succ,Nat.testBit_succ,Nat.testBit_succ,show 2*v/2=v by omega,show (2*v+1)/2=v by omega];simp
theorem or_one_i (v:Nat)(h:v<1000000):Go.bits .or .i64 ((v:Int)*2) 1=((2*v+1:Nat):Int):=by
 have:=i64_or_nat (2*v) 1 (by omega) (by omega)
 rw [or_one] at this
 rw [<- this]
 congr 1
 omega
theorem copyBit (w:World)(p g b wd ht:Nat)(f:Nat->Nat->Bool)(x1 x2:Value)(i j v:Nat)(hp:Blk w p 144 #[.pointer (some ⟨g,0,none⟩),x1,x2,.bool false])(G:Grid w g b wd ht f)
  (hi:i<wd) (hj:j<ht) (hw:wd<=1000) (hh:ht<=1000) (hv:v<1000000) :
  Calls Tryz.prog 84 #[.pointer (some ⟨p,0,none⟩),.int .i64 (i:Int),.int .i64 (j:Int),.int .i64 (v:Int)] w fun e w'=>e=.returned (.int .i64 ((2*v+(f i j).toNat:Nat):Int))/\w=w':=by
 have k:=gridGet w g b wd ht f i j G hi hj hw hh
 have c0:w.cell? ⟨p,0,none⟩=some (.pointer (some ⟨g,0,none⟩)):=hp.cell 0
 have c3:w.cell? ⟨p,3,none⟩=some (.bool false):=hp.cell 3
 have ho:=or_one_i v hv
 clear hp G
 cases hb:f i j with
 | true=>
  rw [hb] at k
  clear hb
  go_enter Tryz.func84,Tryz.ntmps84
  go_wp2_with (go_at_call 94;refine k.mono ?_;rintro e w' ⟨rfl,rfl⟩)
  go_ret
  exact⟨rfl,rfl⟩
 | false=>
  rw [hb] at k
  clear hb
  go_enter Tryz.func84,Tryz.ntmps84
  go_wp2_with (go_at_call 94;refine k.mono ?_;rintro e w' ⟨rfl,rfl⟩)
  go_ret
  exact⟨ret_i (show (v:Int)*2=((2*v+false.toNat:Nat):Int) by simp;omega),rfl⟩
structure Upd (w w':World)(g:Nat):Prop where
 os:w'.os=w.os
 tape:w'.tape=w.tape
 output:w'.output=w.output
 size:w.heap.size<=w'.heap.size
 block:∀ k,k<w.heap.size->k≠g->w'.heap[k]? = w.heap[k]?
theorem Upd.refl (w:World)(g:Nat):Upd w w g:=⟨rfl,rfl,rfl,Nat.le_refl _,fun _ _ _=>rfl⟩
theorem Upd.trans {a b c:World}{g:Nat}(h:Upd a b g)(k:Upd b c g):Upd a c g :=
 ⟨k.os.trans h.os,k.tape.trans h.tape,k.output.trans h.output,Nat.le_trans h.size k.size,fun i hi hn=>(k.block i (Nat.lt_of_lt_of_le hi h.size) hn).trans (h.block i hi hn)⟩
theorem Upd.of_below {w w':World}(h:Below w.heap.size w w')(g:Nat):Upd w w' g:=⟨h.os,h.tape,h.output,h.size,fun k hk _=>h.block k hk⟩
theorem Upd.of_turn {w w':World}{g:Nat}(h:Turn w w' g):Upd w w' g:=⟨h.os,h.tape,h.output,by rw [h.size];exact Nat.le_refl _,fun k _ hn=>h.block k hn⟩
theorem Upd.set (w:World)(g i:Nat)(u:Value):Upd w (w.setCell ⟨g,i,none⟩ u) g:=Upd.of_turn (Turn.set w g i u)
theorem Upd.blk {w w':World}{g b:Nat}{t:TypeId}{cs:Array Value}(h:Upd w w' g)(hb:Blk w b t cs)(hne:b≠g):Blk w' b t cs:=(h.block b hb.lt hne).trans hb
theorem Upd.grid {w w':World}{p g b wd ht:Nat}{f:Nat->Nat->Bool}(h:Upd w w' p)(G:Grid w g b wd ht f)(h1:g≠p)(h2:b≠p):Grid w' g b wd ht f :=
 G.keep (h.block g G.lt.1 h1) (h.block b G.lt.2 h2)
theorem Upd.below {w0 w w':World}{g B:Nat}(h:Upd w w' g)(hb:Below B w0 w)(hg:B<=g)(hB:B<=w.heap.size):Below B w0 w' :=
 ⟨h.os.trans hb.os,h.tape.trans hb.tape,h.output.trans hb.output,Nat.le_trans hb.size h.size,fun k hk=>(h.block k (by omega) (by omega)).trans (hb.block k hk)⟩
theorem VerAt.upd {w w':World}{p pv:Nat}{n:Int}{v:VerRow}{cs:Array Value}(h:VerAt w pv n v)(hu:Upd w w' p)(hp:Blk w p 144 cs):VerAt w' pv n v:=by
 obtain⟨gc,ge,g,h1,h2,h3,h4⟩:=h
 exact⟨gc,ge,g,hu.blk h1 (blk_ne h1 hp (by decide)),hu.blk h2 (blk_ne h2 hp (by decide)),hu.blk h3 (blk_ne h3 hp (by decide)),fun l hl=>hu.blk (h4 l hl) (blk_ne (h4 l hl) hp (by decide))⟩
def Parser (w:World)(p g v:Nat)(fm:Value):Prop:=∃ x1,Blk w p 144 #[.pointer (some ⟨g,0,none⟩),x1,fm,.bool false]/\(x1=.pointer none\/∃ pv,x1=.pointer (some ⟨pv,0,none⟩)/\VerAt w pv (v:Int) (verRow v))
def vacc (f:Nat->Nat->Bool)(n:Nat):Nat->Nat
 | 0=>0
 | k+1=>2*vacc f n k+(f (n-9-k%3) (5-k/3)).toNat
theorem vacc_lt (f:Nat->Nat->Bool)(n:Nat):∀ k,vacc f n k<2 ^ k:=by
 intro k
 induction k with
 | zero=>exact Nat.one_pos
 | succ k ih=>
  rw [vacc,Nat.pow_succ]
  have:(f (n-9-k%3) (5-k/3)).toNat<=1:=Bool.toNat_le _
  omega
theorem vacc_small (f:Nat->Nat->Bool)(n k:Nat)(h:k<=18):vacc f n k<262144:=Nat.lt_of_lt_of_le (vacc_lt f n k) (Nat.pow_le_pow_right (n:=2) (by omega) h)
def VerRead (w:World)(p g v:Nat)(fm:Value)(e:Ending)(w':World):Prop:=∃ pv,e=.returned (.tuple #[.pointer (some ⟨pv,0,none⟩),.nilIface])/\VerAt w' pv (v:Int) (verRow v)/\Parser w' p g v fm/\Upd w w' p
theorem verDim (w:World)(p n:Nat)(v:VerRow)(h:VerAt w p (n:Int) v)(hn:1<=n/\n<=40):Calls Tryz.prog 86 #[.pointer (some ⟨p,0,none⟩)] w fun e w'=>e=.returned (.int .i64 ((17+4*n:Nat):Int))/\w=w':=by
 obtain⟨gc,ge,g,h1,_⟩:=h
 refine (ver_dim w p (n:Int) (by omega) (h1.cell 0)).mono ?_
 rintro e w' ⟨rfl,h⟩
 exact⟨ret_i (by omega),h⟩
theorem readVersion_small (w:World)(p g b v:Nat)(fm:Value)(f:Nat->Nat->Bool)(hP:Blk w p 144 #[.pointer (some ⟨g,0,none⟩),.pointer none,fm,.bool false])(G:Grid w g b (17+4*v) (17+4*v) f)(hv:1<=v/\v<=6) :
  Calls Tryz.prog 39 #[.pointer (some ⟨p,0,none⟩)] w (VerRead w p g v fm):=by
 have k:=gridHeight w g b _ _ f G
 have c0:w.cell? ⟨p,0,none⟩=some (.pointer (some ⟨g,0,none⟩)):=hP.cell 0
 have c1:w.cell? ⟨p,1,none⟩=some (.pointer none):=hP.cell 1
 obtain⟨hv1,hv2⟩:=hv
 obtain⟨n,hn⟩:∃ n,17+4*v=n:=⟨_,rfl⟩
 rw [hn] at k
 have hq:((n:Int)-17)/4=(v:Int):=by omega
 have hb1:17<=n:=by omega
 have hb2:n<=41:=by omega
 have HP:=Aside0.mk hP
 have HQ:=Aside0.mk hq
 clear hP hn G
 go_enter Tryz.func39,Tryz.ntmps39
 go_wp2_with (first | (go_at_call 83;refine k.mono ?_;rintro e w' ⟨rfl,rfl⟩) | (go_at_call 60;refine (verNum_ok _ v (by omega)).mono ?_;rintro e w' ⟨pv,rfl,hp,hv,hb⟩))
 have HV:=Aside0.mk hv
 clear hv
 go_ret2
 exact⟨pv,rfl,HV.out,⟨_,HP.out.below hb HP.out.lt,.inl rfl⟩,Upd.of_below hb p⟩
theorem readVersion_again (w:World)(p g v pv:Nat)(fm:Value)(hP:Blk w p 144 #[.pointer (some ⟨g,0,none⟩),.pointer (some ⟨pv,0,none⟩),fm,.bool false])(hV:VerAt w pv (v:Int) (verRow v)) :
  Calls Tryz.prog 39 #[.pointer (some ⟨p,0,none⟩)] w (VerRead w p g v fm):=by
 have c1:w.cell? ⟨p,1,none⟩=some (.pointer (some ⟨pv,0,none⟩)):=hP.cell 1
 have HP:=Aside0.mk hP
 have HV:=Aside0.mk hV
 clear hP hV
 go_enter Tryz.func39,Tryz.ntmps39
 go_wp2
 go_ret2
 exact⟨pv,rfl,HV.out,⟨_,HP.out,.inr ⟨pv,rfl,HV.out⟩⟩,Upd.refl _ _⟩
set_option maxHeartbeats 2000000 in
theorem readVersion_great (w:World)(p g b v:Nat)(fm:Value)(f:Nat->Nat->Bool)(hP:Blk w p 144 #[.pointer (some ⟨g,0,none⟩),.pointer none,fm,.bool false])(G:Grid w g b (17+4*v) (17+4*v) f)(hv:7<=v/\v<=40)
  (hd:hd (vacc f (17+4*v) 18) (verTabN.getD (v-7) 0)<=3) :
  Calls Tryz.prog 39 #[.pointer (some ⟨p,0,none⟩)] w (VerRead w p g v fm):=by
 have k:=gridHeight w g b _ _ f G
 have c0:w.cell? ⟨p,0,none⟩=some (.pointer (some ⟨g,0,none⟩)):=hP.cell 0
 have c1:w.cell? ⟨p,1,none⟩=some (.pointer none):=hP.cell 1
 obtain⟨hv1,hv2⟩:=hv
 obtain⟨n,hn⟩:∃ n,17+4*v=n:=⟨_,rfl⟩
 rw [hn] at k G hd
 have hq:6<((n:Int)-17)/4:=by omega
 have hb1:45<=n:=by omega
 have hb2:n<=177:=by omega
 have HP:=Aside0.mk hP
 have HG:=Aside0.mk G
 have HN:=Aside0.mk hn
 have HD:=Aside0.mk hd
 clear hP hn G hd
 go_enter Tryz.func39,Tryz.ntmps39
 go_wp2_with (first | (go_at_call 83;refine k.mono ?_;rintro e w' ⟨rfl,rfl⟩))
 go_loop [6,8] (fun vb vj=>∃ m x:Nat,m<=6/\vj=.int .i64 (5-(m:Int))/\vb=.int .i64 (x:Int)/\Aside0 (x=vacc f n (3*m))) (fun _ vj=>(intOf vj+1).toNat)
 case atStart=>exact⟨0,0,by omega,rfl,rfl,⟨rfl⟩⟩
 case round=>
  obtain⟨m,x,hm,rfl,rfl,HX⟩:=hrel
  by_cases hlt:m<6
  ·go_wp2
   go_loop [6,9] (fun vb vi=>∃ t y:Nat,t<=3/\vi=.int .i64 ((n:Int)-9-(t:Int))/\vb=.int .i64 (y:Int)/\Aside0 (y=vacc f n (3*m+t))) (fun _ vi=>(intOf vi-(n:Int)+12).toNat)
   case atStart=>exact⟨0,x,by omega,by go_num,rfl,HX⟩
   case round=>
    obtain⟨t,y,ht,rfl,rfl,HY⟩:=hrel
    by_cases hlt3:t<3
    ·have hcb:=copyBit w p g b n n f (.pointer none) fm (n-9-t) (5-m) y HP.out HG.out (by omega) (by omega) (by omega) (by omega) (by have:=vacc_small f n (3*m+t) (by omega);have:=HY.out;omega)
     rw [show ((n-9-t:Nat):Int)=(n:Int)-9-(t:Int) by omega,show ((5-m:Nat):Int)=5-(m:Int) by omega] at hcb
     have hy:2*y+(f (n-9-t) (5-m)).toNat=vacc f n (3*m+(t+1)):=by
      rw [show 3*m+(t+1)=3*m+t+1 by omega,vacc,<- HY.out,show (3*m+t)%3=t by omega,show (3*m+t)/3=m by omega]
     obtain⟨z,hz⟩:∃ z,2*y+(f (n-9-t) (5-m)).toNat=z:=⟨_,rfl⟩
     rw [hz] at hcb hy
     have HZ:=Aside0.mk hy
     clear hz hy
     go_wp2_with (go_at_call 84;refine hcb.mono ?_;rintro e w' ⟨rfl,rfl⟩)
     go_round
     case rel=>exact⟨t+1,z,by omega,by go_num,rfl,HZ⟩
     case measure=>simp [intOf];omega
    ·have:t=3:=by omega
     subst this
     go_wp2
     go_round
     case rel=>exact⟨m+1,y,by omega,by go_num,rfl,by rw [show 3*(m+1)=3*m+3 by omega];exact HY⟩
     case measure=>simp [intOf];omega
  ·have:m=6:=by omega
   subst this
   have ex:x=vacc f n 18:=HX.out
   have hx:x<262144:=by have:=vacc_small f n 18 (by omega);omega
   have hdec:=decVer w x (v-7) (by omega) hx (by rw [ex];exact HD.out)
   rw [show v-7+7=v by omega] at hdec
   have HEX:=Aside0.mk ex
   clear ex
   go_wp2_with (first | (go_at_call 85;refine hdec.mono ?_;rintro e w' ⟨pv,rfl,hp,hV,hB⟩;have hPb:=HP.out.below hB HP.out.lt;have d1:=hPb.cell 1;have d2:=hPb.frozen 1;have HV:=Aside0.mk hV;have HBW:=Aside0.mk hB;have HPB:=Aside0.mk hPb;clear hV hB hPb) | (go_at_call 86;have hvd:=verDim _ pv v (verRow v) HV.out (by omega);rw [HN.out] at hvd;refine hvd.mono ?_;rintro e w' ⟨rfl,rfl⟩;clear hvd))
   go_ret2
   have hu:Upd w (w'.setCell ⟨p,1,none⟩ (.pointer (some ⟨pv,0,none⟩))) p:=(Upd.of_below HBW.out p).trans (Upd.set _ _ _ _)
   have hVx:=HV.out.upd (Upd.set w' p 1 (.pointer (some ⟨pv,0,none⟩))) HPB.out
   refine⟨pv,rfl,hVx,⟨.pointer (some ⟨pv,0,none⟩),?_,.inr ⟨pv,rfl,hVx⟩⟩,hu⟩
   exact blk_set HPB.out 1 _
def cu (n:Nat):Operand:=.const (.int .u64 (n:Int))
def fmtKeys:List (Nat×Nat)->Nat->List OpKey
 | [],_=>[]
 | p :: L,i=>(.buildSlice 249 2 #[(0,cu p.1),(1,cu p.2)],some i,none) :: fmtKeys L (i+1)
def regOf (f:Func):Array Oper:=match f.body with
 | some (.seq _ (.seq (.region _ ops _) _))=>ops
 | _=>#[]
theorem body156:Tryz.f156.body=some (.seq (headOf Tryz.f156) (.seq (.region 1 (regOf Tryz.f156) false) .ret)):=by kernel_rfl
theorem head156:headOf Tryz.f156=.region 0 (regOps (headOf Tryz.f156)) false/\(regOps (headOf Tryz.f156)).toList.map keyOf=[(.assign (.const (.slice none 0 0)),some 0,none)]:=⟨by kernel_rfl,by kernel_rfl⟩
set_option maxRecDepth 100000 in
theorem keys156:(regOf Tryz.f156).toList.map keyOf=fmtKeys fmtTab 1++[(.buildSlice 247 32 (tmpsAt 1 32),some 33,none),(.assign (.tmp 33),some 0,none)]:=by kernel_rfl
theorem run_fmtRow (t d:Int)(W:World):(Instr.buildSlice 249 2 #[(0,.int .u64 t),(1,.int .u64 d)]).run Tryz.prog W=.ok (.slice (some ⟨W.heap.size,0,none⟩) 2 2) (W.alloc (.cells #[.int .u64 t,.int .u64 d] 150)):=by kernel_rfl
theorem eval_cu (t d:Nat)(A:Act):((#[(0,cu t),(1,cu d)]:Array (Nat×Operand)).map fun p=>(p.1,A.eval p.2))=#[(0,.int .u64 (t:Int)),(1,.int .u64 (d:Int))]:=by kernel_rfl
def RowsAt (W':World)(h:Nat)(L:List (Nat×Nat)):Prop:=∀ j,j<L.length->Blk W' (h+j) 150 #[.int .u64 ((L.getD j (0,0)).1:Int),.int .u64 ((L.getD j (0,0)).2:Int)]
theorem rows_wk {ops:Array Oper}{Q:Exit->Act->World->Prop}{ks:List OpKey}:∀ (L:List (Nat×Nat)) (i:Nat) (a:Act) (W:World),i+L.length<a.tmps.size->
  (∀ a' W',Ext a a' i->(∀ j,j<L.length->a'.eval (.tmp (i+j))=.slice (some ⟨W.heap.size+j,0,none⟩) 2 2)->RowsAt W' W.heap.size L->Below W.heap.size W W'->WK ops Q ks a' W')->WK ops Q (fmtKeys L i++ks) a W:=by
 intro L
 induction L with
 | nil=>intro i a W hs k;exact k a W (Ext.refl a i) (fun j hj=>by cases hj) (fun j hj=>by cases hj) (Below.refl _ _)
 | cons p L ih=>
  intro i a W hs k
  rw [List.length_cons] at hs
  rw [fmtKeys,List.cons_append]
  refine WK_slice 249 2 _ i _ (eval_cu p.1 p.2 a) _ (run_fmtRow p.1 p.2 W) ?_
  obtain⟨W1,hW1⟩:∃ W1,W1=W.alloc (.cells #[.int .u64 (p.1:Int),.int .u64 (p.2:Int)] 150):=⟨_,rfl⟩
  have hsz:W1.heap.size=W.heap.size+1:=by rw [hW1];simp
  have hb1:Below W.heap.size W W1:=by rw [hW1];exact below_alloc (Below.refl _ _) _
  have hB:Blk W1 W.heap.size 150 #[.int .u64 (p.1:Int),.int .u64 (p.2:Int)]:=by rw [hW1];exact Blk.new _ _ _
  rw [<- hW1]
  refine ih (i+1) _ _ (by rw [Act.size_put];omega) fun a' W' x e r b=>?_
  rw [hsz] at e r b
  have hb':Below W.heap.size W W':=hb1.trans (b.mono (by omega))
  refine k a' W' (((Ext.refl a i).put i _ (Nat.le_refl _)).trans x (by omega)) ?_ ?_ hb'
  ·intro j hj
   cases j with
   | zero=>
    rw [Nat.add_zero,Nat.add_zero,x.same i (by omega)]
    exact Act.eval_put_same _ _ _ (by omega)
   | succ j=>
    have:=e j (by simpa using hj)
    rw [show i+(j+1)=i+1+j by omega,show W.heap.size+(j+1)=W.heap.size+1+j by omega]
    exact this
  ·intro j hj
   cases j with
   | zero=>exact hB.below b (by omega)
   | succ j=>
    have:=r j (by simpa using hj)
    rw [show W.heap.size+(j+1)=W.heap.size+1+j by omega]
    exact this
def hdrVals (h:Nat):Array (Nat×Value):=((List.range 32).map fun j=>(j,Value.slice (some ⟨h+j,0,none⟩) 2 2)).toArray
def hdrCells (h:Nat):List Value:=(List.range 32).map fun j=>Value.slice (some ⟨h+j,0,none⟩) 2 2
set_option maxRecDepth 100000 in
theorem run_hdr (h:Nat)(W:World):(Instr.buildSlice 247 32 (hdrVals h)).run Tryz.prog W=.ok (.slice (some ⟨W.heap.size,0,none⟩) 32 32) (W.alloc (.cells (hdrCells h).toArray 249)):=by kernel_rfl
theorem eval_hdr (h:Nat)(a:Act)(he:∀ j,j<32->a.eval (.tmp (1+j))=.slice (some ⟨h+j,0,none⟩) 2 2):((tmpsAt 1 32).map fun p=>(p.1,a.eval p.2))=hdrVals h:=by
 unfold tmpsAt hdrVals
 rw [List.map_toArray,List.map_map]
 congr 1
 apply List.map_congr_left
 intro j hj
 rw [List.mem_range] at hj
 show (j,a.eval (.tmp (1+j)))=_
 rw [he j hj]
theorem fmt_call (w:World):Calls Tryz.prog 156 #[] w fun e w'=>∃ ad c,e=.returned (.slice (some ad) 32 c)/\32<=c/\
  (∀ i,i<32->∃ ax cx,w'.cell? (ad.add i)=some (.slice (some ax) 2 cx)/\2<=cx/\w'.cell? ax=some (.int .u64 (((fmtTab.getD i (0,0)).1:Nat):Int))/\w'.cell? ⟨ax.block,ax.off+1,none⟩=some (.int .u64 (((fmtTab.getD i (0,0)).2:Nat):Int)))/\Below w.heap.size w w':=by
 refine calls_of_wp Tryz.func156 body156 ?_
 obtain⟨a,ha⟩:∃ a:Act,a={ tmps:=(#[]:Array Value)++Array.replicate (Tryz.f156.ntmps-(#[]:Array Value).size) undef,defers:=[] }:=⟨_,rfl⟩
 have hsz:a.tmps.size=34:=by
  rw [ha]
  show ((#[]:Array Value)++Array.replicate (Tryz.f156.ntmps-0) undef).size=34
  rw [Array.size_append,Array.size_replicate,show Tryz.f156.ntmps=34 from by kernel_rfl]
  rfl
 have hdf:a.defers=[]:=by rw [ha]
 rw [<- ha]
 obtain⟨k1,k2⟩:=head156
 refine wp_seq ?_
 rw [k1]
 refine wp_region_list ?_
 refine (?_:WK _ _ _ a w) _ k2
 refine WK_assign _ 0 (WK_nil ?_)
 show Code.wp Tryz.prog _ _ _ w
 refine wp_seq (wp_region_list ?_)
 refine (?_:WK _ _ _ _ w) _ keys156
 refine rows_wk fmtTab 1 _ w (by rw [Act.size_put,hsz];decide) fun a' W' x e r b=>?_
 refine WK_slice 247 32 _ 33 _ (eval_hdr w.heap.size a' (fun j hj=>e j hj)) _ (run_hdr w.heap.size W') ?_
 refine WK_assign _ 0 (WK_nil ?_)
 show Code.wp Tryz.prog _ _ _ _
 refine wp_ret ?_
 have s1:a'.tmps.size=34:=by rw [x.size,Act.size_put,hsz]
 have e33:(a'.put (some 33) (.slice (some ⟨W'.heap.size,0,none⟩) 32 32)).eval (.tmp 33)=.slice (some ⟨W'.heap.size,0,none⟩) 32 32:=Act.eval_put_same _ _ _ (by omega)
 rw [e33]
 have e0:((a'.put (some 33) (.slice (some ⟨W'.heap.size,0,none⟩) 32 32)).put (some 0) (.slice (some ⟨W'.heap.size,0,none⟩) 32 32)).eval (.tmp 0)=.slice (some ⟨W'.heap.size,0,none⟩) 32 32:=Act.eval_put_same _ _ _ (by rw [Act.size_put];omega)
 have hD:((a'.put (some 33) (.slice (some ⟨W'.heap.size,0,none⟩) 32 32)).put (some 0) (.slice (some ⟨W'.heap.size,0,none⟩) 32 32)).defers=[]:=by rw [Act.defers_put',Act.defers_put',x.defers,Act.defers_put',hdf]
 obtain⟨A,hA⟩:∃ A,A=(a'.put (some 33) (.slice (some ⟨W'.heap.size,0,none⟩) 32 32)).put (some 0) (.slice (some ⟨W'.heap.size,0,none⟩) 32 32):=⟨_,rfl⟩
 rw [<- hA] at e0 hD ⊢
 clear hA
 refine bodyPost_ret (v:=.slice (some ⟨W'.heap.size,0,none⟩) 32 32) ?_ hD ?_
 ·rw [show results Tryz.f156=results { Tryz.f156 with results:=#[.tmp 0] } from by unfold results;rw [show Tryz.f156.results=#[.tmp 0] from by kernel_rfl]]
  have:(A.tmps[0]?.getD undef)=.slice (some ⟨W'.heap.size,0,none⟩) 32 32:=by simpa [Act.eval] using e0
  simp [results,go_sem,this]
 ·refine⟨⟨W'.heap.size,0,none⟩,32,rfl,Nat.le_refl _,?_,below_alloc b _⟩
  intro i hi
  have hH:=Blk.new W' 249 (hdrCells w.heap.size).toArray
  have hR:=(r i hi).alloc (.cells (hdrCells w.heap.size).toArray 249)
  refine⟨⟨w.heap.size+i,0,none⟩,2,?_,Nat.le_refl _,hR.cell 0,hR.cell 1⟩
  rw [add_plain,hH.cell]
  unfold hdrCells
  simp [List.getElem?_range hi]
theorem ecl_forBits (w:World)(c:Nat)(h:c<4):Calls Tryz.prog 169 #[.int .u64 (c:Int)] w fun e w'=>e=.returned (.tuple #[.int .i64 (c:Int),.nilIface])/\w=w':=by
 have h4:c=0\/c=1\/c=2\/c=3:=by omega
 clear h
 rcases h4 with rfl | rfl | rfl | rfl
 all_goals
  go_enter Tryz.func169,Tryz.ntmps169
  go_wp2
  go_ret2
  exact⟨rfl,rfl⟩
def FmtAt (w:World)(q d:Nat):Prop:=Blk w q 156 #[.int .i64 ((d/8:Nat):Int),.int .u8 ((d%8:Nat):Int)]
theorem newFmtInfo (w:World)(d:Nat)(h:d<32):Calls Tryz.prog 157 #[.int .u64 (d:Int)] w fun e w'=>e=.returned (.pointer (some ⟨w.heap.size,0,none⟩))/\FmtAt w' w.heap.size d/\Below w.heap.size w w':=by
 have h1:Go.bits .and .u64 ((d:Int)/8) 3=((d/8:Nat):Int):=by
  have:=u64_and_nat (d/8) 3 (by omega) (by omega)
  rw [show d/8 &&& 3=d/8%4 from Nat.and_two_pow_sub_one_eq_mod (n:=2) _,show d/8%4=d/8 by omega] at this
  rw [<- this];rfl
 have h2:Go.bits .and .u64 (d:Int) 7=((d%8:Nat):Int):=by
  have:=u64_and_nat d 7 (by omega) (by omega)
  rw [show d &&& 7=d%8 from Nat.and_two_pow_sub_one_eq_mod (n:=3) _] at this
  rw [<- this];rfl
 obtain⟨x,hx⟩:∃ x,d/8=x:=⟨_,rfl⟩
 obtain⟨y,hy⟩:∃ y,d%8=y:=⟨_,rfl⟩
 unfold FmtAt
 rw [hx] at h1
 rw [hy] at h2
 rw [hx,hy]
 have hxl:x<4:=by omega
 have hyl:y<8:=by omega
 clear hx hy
 go_enter Tryz.func157,Tryz.ntmps157
 go_wp2_with (go_at_call 169;refine (ecl_forBits _ x hxl).mono ?_;rintro e w' ⟨rfl,rfl⟩)
 go_ret
 exact⟨rfl,Blk.new _ _ _,(Below.refl _ _).alloc (Nat.le_refl _) _⟩
theorem fmtTab_lim:∀ i:Fin 32,(fmtTab.getD i.val (0,0)).1<65536/\(fmtTab.getD i.val (0,0)).2<32:=by decide
def goesF (a b d i best info:Nat):Prop:=fmtGo a b (fmtTab.drop i) (best,info)=some d
theorem goesF_step {a b d i best info:Nat}(hi:i<32)(h:goesF a b d i best info) :
  (((fmtTab.getD i (0,0)).1=a\/(fmtTab.getD i (0,0)).1=b)/\(fmtTab.getD i (0,0)).2=d)\/
  ((¬ ((fmtTab.getD i (0,0)).1=a\/(fmtTab.getD i (0,0)).1=b))/\goesF a b d (i+1) (fmtStep a b (fmtTab.getD i (0,0)).1 (fmtTab.getD i (0,0)).2 (best,info)).1 (fmtStep a b (fmtTab.getD i (0,0)).1 (fmtTab.getD i (0,0)).2 (best,info)).2):=by
 have hl:i<fmtTab.length:=hi
 have hd:fmtTab.drop i=fmtTab.getD i (0,0) :: fmtTab.drop (i+1):=by
  rw [List.drop_eq_getElem_cons hl,List.getD_eq_getElem?_getD,List.getElem?_eq_getElem hl]
  rfl
 unfold goesF at h ⊢
 rw [hd] at h
 generalize fmtTab.getD i (0,0)=x at h ⊢
 obtain⟨t,dd⟩:=x
 rw [fmtGo] at h
 by_cases hc:t=a\/t=b
 ·rw [if_pos hc] at h
  exact .inl ⟨hc,Option.some.inj h⟩
 ·rw [if_neg hc] at h
  exact .inr ⟨hc,h⟩
def SomeFmt (w:World)(d:Nat)(e:Ending)(w':World):Prop:=∃ q,e=.returned (.pointer (some ⟨q,0,none⟩))/\w.heap.size<=q/\FmtAt w' q d/\Below w.heap.size w w'
set_option maxHeartbeats 2000000 in
theorem doDec (w:World)(a b d:Nat)(ha:a<65536)(hb:b<65536)(hd32:d<32)(hg:fmtGo a b fmtTab (2147483647,0)=some d) :
  Calls Tryz.prog 130 #[.int .u64 (a:Int),.int .u64 (b:Int)] w (SomeFmt w d):=by
 have H0:=Aside0.mk (show goesF a b d 0 2147483647 0 from hg)
 clear hg
 go_enter Tryz.func130,Tryz.ntmps130
 go_wp2_with (go_at_call 156;refine (fmt_call _).mono ?_;rintro e w' ⟨ad,c,rfl,hc,hcell,hb⟩)
 have HC:=Aside0.mk hcell
 have HB:=Aside0.mk hb
 obtain⟨w1,rfl⟩:∃ w1:World,w1=w':=⟨_,rfl⟩
 clear hcell hb
 go_loopw [5,6,13] (fun vb vv vi wr=>∃ i best info:Nat,i<=32/\vb=.int .i64 (best:Int)/\vv=.int .u64 (info:Int)/\vi=.int .i64 (i:Int)/\best<=2147483647/\info<32/\Aside0 (goesF a b d i best info)/\Aside0 (Below w1.heap.size w1 wr)) (fun _ _ vi _=>(32-intOf vi).toNat)
 case atStart=>exact⟨0,2147483647,0,by omega,rfl,rfl,rfl,by omega,by omega,H0,⟨Below.refl _ _⟩⟩
 case round=>
  obtain⟨i,best,info,hi,rfl,rfl,rfl,hbest,hinfo,HG,HBr⟩:=hrel
  by_cases hlt32:i<32
  ·obtain⟨ax,cx,q0,hcx,q1,q2⟩:=HC.out i hlt32
   have hlim:=fmtTab_lim ⟨i,hlt32⟩
   have hst:=goesF_step hlt32 HG.out
   simp only at hlim
   obtain⟨t,ht⟩:∃ t,(fmtTab.getD i (0,0)).1=t:=⟨_,rfl⟩
   obtain⟨dd,hdd⟩:∃ dd,(fmtTab.getD i (0,0)).2=dd:=⟨_,rfl⟩
   rw [ht,hdd] at hst hlim
   rw [ht] at q1
   rw [hdd] at q2
   obtain⟨hl1,hl2⟩:=hlim
   replace q0:=pw_cell_below HBr.out q0
   replace q1:=pw_cell_below HBr.out q1
   replace q2:=pw_cell_below HBr.out q2
   clear ht hdd
   rcases hst with⟨e1,e2⟩ | ⟨e1,e2⟩
   ·subst e2
    rcases Decidable.em (t=a) with e3 | e3
    ·subst e3
     clear e1
     go_wp2_with (go_at_call 157;refine (newFmtInfo _ dd hl2).mono ?_;rintro e w' ⟨rfl,hf,hbf⟩)
     have HF:=Aside0.mk hf
     clear hf
     go_ret
     refine⟨_,rfl,?_,HF.out,?_⟩
     ·have:=HB.out.size;have:=HBr.out.size;omega
     ·exact HB.out.trans ((HBr.out.mono HB.out.size).trans (hbf.mono (Nat.le_trans HB.out.size HBr.out.size)))
    ·have e4:t=b:=by rcases e1 with e | e;exact absurd e e3;exact e
     subst e4
     have hne:((t:Int)==(a:Int))=false:=by simpa using (fun h:(t:Int)=(a:Int)=>e3 (by omega))
     clear e1 e3
     go_wp2_with (go_at_call 157;refine (newFmtInfo _ dd hl2).mono ?_;rintro e w' ⟨rfl,hf,hbf⟩)
     have HF:=Aside0.mk hf
     clear hf
     go_ret
     refine⟨_,rfl,?_,HF.out,?_⟩
     ·have:=HB.out.size;have:=HBr.out.size;omega
     ·exact HB.out.trans ((HBr.out.mono HB.out.size).trans (hbf.mono (Nat.le_trans HB.out.size HBr.out.size)))
   ·have hta:t≠a:=fun h=>e1 (.inl h)
    have htb:t≠b:=fun h=>e1 (.inr h)
    have hne1:((t:Int)==(a:Int))=false:=by simpa using (fun h:(t:Int)=(a:Int)=>hta (by omega))
    have hne2:((t:Int)==(b:Int))=false:=by simpa using (fun h:(t:Int)=(b:Int)=>htb (by omega))
    have hdl1:hd a t<=64:=pcN_le 64 _
    have hdl2:hd b t<=64:=pcN_le 64 _
    have hcall1:=F.decoder_FormatInformation_NumBitsDiffering.calls a t _ wr (bitsDiff a t (by omega) (by omega))
    have hcall2:=fun W=>F.decoder_FormatInformation_NumBitsDiffering.calls b t _ W (bitsDiff b t (by omega) (by omega))
    obtain⟨x,hx⟩:∃ x,hd a t=x:=⟨_,rfl⟩
    obtain⟨y,hy⟩:∃ y,hd b t=y:=⟨_,rfl⟩
    have HE:=Aside0.mk e2
    rw [hx] at hcall1 hdl1
    simp only [hy] at hcall2
    rw [hy] at hdl2
    have HX:=Aside0.mk hx
    have HY:=Aside0.mk hy
    have HC2:=Aside0.mk hcall2
    clear e1 e2 hx hy hta htb hcall2
    rcases Decidable.em (a=b) with hab | hab
    ·subst hab
     by_cases hl:x<best
     ·go_wp2_with (go_at_call 128;refine hcall1.mono ?_;rintro e w' ⟨rfl,hdr⟩;obtain⟨nd,rfl⟩:=hdr.out)
      go_roundw
      case rel=>exact⟨i+1,x,dd,by omega,rfl,by go_num,by go_num,by omega,hl2,⟨by have:=HE.out;unfold fmtStep nearStep at this;rw [if_pos rfl,HX.out,if_pos hl] at this;exact this⟩,⟨pw_below_drewN HBr.out _⟩⟩
      case measure=>simp [intOf];omega
     ·go_wp2_with (go_at_call 128;refine hcall1.mono ?_;rintro e w' ⟨rfl,hdr⟩;obtain⟨nd,rfl⟩:=hdr.out)
      go_roundw
      case rel=>exact⟨i+1,best,info,by omega,rfl,by go_num,by go_num,by omega,hinfo,⟨by have:=HE.out;unfold fmtStep nearStep at this;rw [if_pos rfl,HX.out,if_neg hl] at this;exact this⟩,⟨pw_below_drewN HBr.out _⟩⟩
      case measure=>simp [intOf];omega
    ·have hne3:((a:Int)==(b:Int))=false:=by simpa using (fun h:(a:Int)=(b:Int)=>hab (by omega))
     have hne4:((a:Int) != (b:Int))=true:=by rw [bne,hne3];rfl
     have HAB:=Aside0.mk hab
     clear hab
     have hstep:∀ s:Nat×Nat,fmtStep a b t dd s=nearStep b t dd (nearStep a t dd s):=fun s=>if_neg HAB.out
     by_cases hl:x<best
     ·by_cases hk:y<x
      ·have HS:=Aside0.mk (show fmtStep a b t dd (best,info)=(y,dd) by rw [hstep];unfold nearStep;rw [HX.out,HY.out,if_pos (show x<(best,info).1 from hl),if_pos (show y<(x,dd).1 from hk)])
       clear hstep
       go_wp2_with (first | (go_at_call_of 128 (a:Int);refine hcall1.mono ?_;rintro e w' ⟨rfl,hdr⟩;obtain⟨nd,rfl⟩:=hdr.out) | (go_at_call 128;refine (HC2.out _).mono ?_;rintro e w' ⟨rfl,hdr⟩;obtain⟨nd2,rfl⟩:=hdr.out))
       go_roundw
       case rel=>exact⟨i+1,y,dd,by omega,rfl,by go_num,by go_num,by omega,hl2,⟨by have:=HE.out;rw [HS.out] at this;exact this⟩,⟨by repeat (first | exact HBr.out | apply pw_below_drewN)⟩⟩
       case measure=>simp [intOf];omega
      ·have HS:=Aside0.mk (show fmtStep a b t dd (best,info)=(x,dd) by rw [hstep];unfold nearStep;rw [HX.out,HY.out,if_pos (show x<(best,info).1 from hl),if_neg (show ¬ y<(x,dd).1 from hk)])
       clear hstep
       go_wp2_with (first | (go_at_call_of 128 (a:Int);refine hcall1.mono ?_;rintro e w' ⟨rfl,hdr⟩;obtain⟨nd,rfl⟩:=hdr.out) | (go_at_call 128;refine (HC2.out _).mono ?_;rintro e w' ⟨rfl,hdr⟩;obtain⟨nd2,rfl⟩:=hdr.out))
       go_roundw
       case rel=>exact⟨i+1,x,dd,by omega,rfl,by go_num,by go_num,by omega,hl2,⟨by have:=HE.out;rw [HS.out] at this;exact this⟩,⟨by repeat (first | exact HBr.out | apply pw_below_drewN)⟩⟩
       case measure=>simp [intOf];omega
     ·by_cases hk:y<best
      ·have HS:=Aside0.mk (show fmtStep a b t dd (best,info)=(y,dd) by rw [hstep];unfold nearStep;rw [HX.out,HY.out,if_neg (show ¬ x<(best,info).1 from hl),if_pos (show y<(best,info).1 from hk)])
       clear hstep
       go_wp2_with (first | (go_at_call_of 128 (a:Int);refine hcall1.mono ?_;rintro e w' ⟨rfl,hdr⟩;obtain⟨nd,rfl⟩:=hdr.out) | (go_at_call 128;refine (HC2.out _).mono ?_;rintro e w' ⟨rfl,hdr⟩;obtain⟨nd2,rfl⟩:=hdr.out))
       go_roundw
       case rel=>exact⟨i+1,y,dd,by omega,rfl,by go_num,by go_num,by omega,hl2,⟨by have:=HE.out;rw [HS.out] at this;exact this⟩,⟨by repeat (first | exact HBr.out | apply pw_below_drewN)⟩⟩
       case measure=>simp [intOf];omega
      ·have HS:=Aside0.mk (show fmtStep a b t dd (best,info)=(best,info) by rw [hstep];unfold nearStep;rw [HX.out,HY.out,if_neg (show ¬ x<(best,info).1 from hl),if_neg (show ¬ y<(best,info).1 from hk)])
       clear hstep
       go_wp2_with (first | (go_at_call_of 128 (a:Int);refine hcall1.mono ?_;rintro e w' ⟨rfl,hdr⟩;obtain⟨nd,rfl⟩:=hdr.out) | (go_at_call 128;refine (HC2.out _).mono ?_;rintro e w' ⟨rfl,hdr⟩;obtain⟨nd2,rfl⟩:=hdr.out))
       go_roundw
       case rel=>exact⟨i+1,best,info,by omega,rfl,by go_num,by go_num,by omega,hinfo,⟨by have:=HE.out;rw [HS.out] at this;exact this⟩,⟨by repeat (first | exact HBr.out | apply pw_below_drewN)⟩⟩
       case measure=>simp [intOf];omega
  ·have:i=32:=by omega
   subst this
   have hfin:=HG.out
   unfold goesF at hfin
   rw [show fmtTab.drop 32=[] from rfl,fmtGo] at hfin
   split at hfin
   ·rename_i hb3
    have hb3:best<=3:=hb3
    have e:info=d:=Option.some.inj hfin
    subst e
    clear hfin
    go_wp2_with (go_at_call 157;refine (newFmtInfo _ info hinfo).mono ?_;rintro e w' ⟨rfl,hf,hbf⟩)
    have HF:=Aside0.mk hf
    clear hf
    go_ret
    refine⟨_,rfl,?_,HF.out,?_⟩
    ·have:=HB.out.size;have:=HBr.out.size;omega
    ·exact HB.out.trans ((HBr.out.mono HB.out.size).trans (hbf.mono (Nat.le_trans HB.out.size HBr.out.size)))
   ·cases hfin
theorem decFmt (w:World)(a b d:Nat)(ha:a<65536)(hb:b<65536)(hd:d<32)(hg:fmtGo a b fmtTab (2147483647,0)=some d) :
  Calls Tryz.prog 88 #[.int .u64 (a:Int),.int .u64 (b:Int)] w (SomeFmt w d):=by
 have k:=doDec w a b d ha hb hd hg
 clear hg
 go_enter Tryz.func88,Tryz.ntmps88
 go_wp2_with (go_at_call 130;refine k.mono ?_;rintro e w' ⟨q,rfl,hq,hf,hB⟩)
 have HF:=Aside0.mk hf
 clear hf
 go_ret
 exact⟨q,rfl,hq,HF.out,hB⟩
def nacc (g:Nat->Bool):Nat->Nat
 | 0=>0
 | k+1=>2*nacc g k+(g k).toNat
theorem nacc_lt (g:Nat->Bool):∀ k,nacc g k<2 ^ k:=by
 intro k
 induction k with
 | zero=>exact Nat.one_pos
 | succ k ih=>
  rw [nacc,Nat.pow_succ]
  have:(g k).toNat<=1:=Bool.toNat_le _
  omega
def fat1 (f:Nat->Nat->Bool)(k:Nat):Bool:=if k<6 then f k 8 else if k=6 then f 7 8 else if k=7 then f 8 8 else if k=8 then f 8 7 else f 8 (14-k)
def fat2 (f:Nat->Nat->Bool)(n k:Nat):Bool:=if k<7 then f 8 (n-1-k) else f (n-15+k) 8
theorem nacc_small (g:Nat->Bool)(k:Nat)(h:k<=15):nacc g k<32768:=Nat.lt_of_lt_of_le (nacc_lt g k) (Nat.pow_le_pow_right (n:=2) (by omega) h)
def FmtRead (w:World)(p g v d:Nat)(e:Ending)(w':World):Prop:=∃ q,e=.returned (.tuple #[.pointer (some ⟨q,0,none⟩),.nilIface])/\FmtAt w' q d/\Parser w' p g v (.pointer (some ⟨q,0,none⟩))/\Upd w w' p
theorem readFormat_again (w:World)(p g v q d:Nat)(hP:Parser w p g v (.pointer (some ⟨q,0,none⟩)))(hF:FmtAt w q d) :
  Calls Tryz.prog 40 #[.pointer (some ⟨p,0,none⟩)] w (FmtRead w p g v d):=by
 obtain⟨x1,hB,hx⟩:=hP
 have c1:w.cell? ⟨p,2,none⟩=some (.pointer (some ⟨q,0,none⟩)):=hB.cell 2
 have HB:=Aside0.mk hB
 have HX:=Aside0.mk hx
 have HF:=Aside0.mk hF
 clear hB hx hF
 go_enter Tryz.func40,Tryz.ntmps40
 go_wp2
 go_ret2
 exact⟨q,rfl,HF.out,⟨x1,HB.out,HX.out⟩,Upd.refl _ _⟩
set_option maxHeartbeats 4000000 in
theorem readFormat (w:World)(p g b v d:Nat)(f:Nat->Nat->Bool)(hP:Parser w p g v (.pointer none))(G:Grid w g b (17+4*v) (17+4*v) f)(hv:1<=v/\v<=40)(hd:d<32)
  (hg:fmtGo (nacc (fat1 f) 15) (nacc (fat2 f (17+4*v)) 15) fmtTab (2147483647,0)=some d) :
  Calls Tryz.prog 40 #[.pointer (some ⟨p,0,none⟩)] w (FmtRead w p g v d):=by
 obtain⟨x1,hB,hx⟩:=hP
 have k:=gridHeight w g b _ _ f G
 have c0:w.cell? ⟨p,0,none⟩=some (.pointer (some ⟨g,0,none⟩)):=hB.cell 0
 have c2:w.cell? ⟨p,2,none⟩=some (.pointer none):=hB.cell 2
 obtain⟨n,hn⟩:∃ n,17+4*v=n:=⟨_,rfl⟩
 rw [hn] at k G hg
 have hb1:21<=n:=by omega
 have hb2:n<=177:=by omega
 have HB:=Aside0.mk hB
 have HX:=Aside0.mk hx
 have HG:=Aside0.mk G
 have HD:=Aside0.mk hg
 clear hB hx G hg hn hv
 go_enter Tryz.func40,Tryz.ntmps40
 go_wp2
 go_loop [4,5] (fun va vi=>∃ i x:Nat,i<=6/\vi=.int .i64 (i:Int)/\va=.int .i64 (x:Int)/\Aside0 (x=nacc (fat1 f) i)) (fun _ vi=>(6-intOf vi).toNat)
 case atStart=>exact⟨0,0,by omega,rfl,rfl,⟨rfl⟩⟩
 case round=>
  obtain⟨i,x,hi,rfl,rfl,HX1⟩:=hrel
  have hxl:x<32768:=by have:=nacc_small (fat1 f) i (by omega);have:=HX1.out;omega
  by_cases hlt:i<6
  ·have hcb:=copyBit w p g b n n f x1 (.pointer none) i 8 x HB.out HG.out (by omega) (by omega) (by omega) (by omega) (by omega)
   have hy:2*x+(f i 8).toNat=nacc (fat1 f) (i+1):=by
    rw [nacc,<- HX1.out,show fat1 f i=f i 8 from by unfold fat1;rw [if_pos hlt]]
   obtain⟨z,hz⟩:∃ z,2*x+(f i 8).toNat=z:=⟨_,rfl⟩
   rw [hz] at hcb hy
   have HZ:=Aside0.mk hy
   clear hz hy
   go_wp2_with (go_at_call 84;refine hcb.mono ?_;rintro e w' ⟨rfl,rfl⟩)
   go_round
   case rel=>exact⟨i+1,z,by omega,by go_num,rfl,HZ⟩
   case measure=>simp [intOf];omega
  ·have:i=6:=by omega
   subst this
   obtain⟨x7,h7⟩:∃ z,2*x+(f 7 8).toNat=z:=⟨_,rfl⟩
   have e7:x7=nacc (fat1 f) 7:=by rw [nacc,<- HX1.out,<- h7];rfl
   have l7:=nacc_small (fat1 f) 7 (by omega)
   rw [<- e7] at l7
   obtain⟨x8,h8⟩:∃ z,2*x7+(f 8 8).toNat=z:=⟨_,rfl⟩
   have e8:x8=nacc (fat1 f) 8:=by rw [nacc,<- e7,<- h8];rfl
   have l8:=nacc_small (fat1 f) 8 (by omega)
   rw [<- e8] at l8
   obtain⟨x9,h9⟩:∃ z,2*x8+(f 8 7).toNat=z:=⟨_,rfl⟩
   have e9:x9=nacc (fat1 f) 9:=by rw [nacc,<- e8,<- h9];rfl
   have l9:=nacc_small (fat1 f) 9 (by omega)
   rw [<- e9] at l9
   have k7:=copyBit w p g b n n f x1 (.pointer none) 7 8 x HB.out HG.out (by omega) (by omega) (by omega) (by omega) (by omega)
   have k8:=copyBit w p g b n n f x1 (.pointer none) 8 8 x7 HB.out HG.out (by omega) (by omega) (by omega) (by omega) (by omega)
   have k9:=copyBit w p g b n n f x1 (.pointer none) 8 7 x8 HB.out HG.out (by omega) (by omega) (by omega) (by omega) (by omega)
   rw [h7] at k7
   rw [h8] at k8
   rw [h9] at k9
   have HE:=Aside0.mk e9
   clear e7 e8 e9 h7 h8 h9
   go_wp2_with (first | (go_at_call_of 84 (x:Int);refine k7.mono ?_;rintro e w' ⟨rfl,rfl⟩) | (go_at_call_of 84 (x7:Int);refine k8.mono ?_;rintro e w' ⟨rfl,rfl⟩) | (go_at_call_of 84 (x8:Int);refine k9.mono ?_;rintro e w' ⟨rfl,rfl⟩))
   clear k7 k8 k9
   go_loop [4,6] (fun va vj=>∃ m y:Nat,m<=6/\vj=.int .i64 (5-(m:Int))/\va=.int .i64 (y:Int)/\Aside0 (y=nacc (fat1 f) (9+m))) (fun _ vj=>(intOf vj+1).toNat)
   case atStart=>exact⟨0,x9,by omega,rfl,rfl,HE⟩
   case round=>
    obtain⟨m,y,hm,rfl,rfl,HY⟩:=hrel
    have hyl:y<32768:=by have:=nacc_small (fat1 f) (9+m) (by omega);have:=HY.out;omega
    by_cases hlt6:m<6
    ·have hcb:=copyBit w p g b n n f x1 (.pointer none) 8 (5-m) y HB.out HG.out (by omega) (by omega) (by omega) (by omega) (by omega)
     rw [show ((5-m:Nat):Int)=5-(m:Int) by omega] at hcb
     have hy:2*y+(f 8 (5-m)).toNat=nacc (fat1 f) (9+(m+1)):=by
      rw [show 9+(m+1)=9+m+1 by omega,nacc,<- HY.out,show fat1 f (9+m)=f 8 (5-m) from by unfold fat1;rw [if_neg (by omega),if_neg (by omega),if_neg (by omega),if_neg (by omega),show 14-(9+m)=5-m by omega]]
     obtain⟨z,hz⟩:∃ z,2*y+(f 8 (5-m)).toNat=z:=⟨_,rfl⟩
     rw [hz] at hcb hy
     have HZ:=Aside0.mk hy
     clear hz hy
     go_wp2_with (go_at_call 84;refine hcb.mono ?_;rintro e w' ⟨rfl,rfl⟩)
     go_round
     case rel=>exact⟨m+1,z,by omega,by go_num,rfl,HZ⟩
     case measure=>simp [intOf];omega
    ·have:m=6:=by omega
     subst this
     have HA:=Aside0.mk (show y=nacc (fat1 f) 15 from HY.out)
     clear hyl
     have hyl:y<32768:=by have:=nacc_small (fat1 f) 15 (by omega);have:=HA.out;omega
     go_wp2_with (go_at_call 83;refine k.mono ?_;rintro e w' ⟨rfl,rfl⟩)
     go_loop [8,10] (fun va vj=>∃ t s:Nat,t<=7/\vj=.int .i64 ((n:Int)-1-(t:Int))/\va=.int .i64 (s:Int)/\Aside0 (s=nacc (fat2 f n) t)) (fun _ vj=>(intOf vj-(n:Int)+8).toNat)
     case atStart=>exact⟨0,0,by omega,by go_num,rfl,⟨rfl⟩⟩
     case round=>
      obtain⟨t,s,ht,rfl,rfl,HS⟩:=hrel
      have hsl:s<32768:=by have:=nacc_small (fat2 f n) t (by omega);have:=HS.out;omega
      by_cases hlt7:t<7
      ·have hcb:=copyBit w p g b n n f x1 (.pointer none) 8 (n-1-t) s HB.out HG.out (by omega) (by omega) (by omega) (by omega) (by omega)
       rw [show ((n-1-t:Nat):Int)=(n:Int)-1-(t:Int) by omega] at hcb
       have hy:2*s+(f 8 (n-1-t)).toNat=nacc (fat2 f n) (t+1):=by
        rw [nacc,<- HS.out,show fat2 f n t=f 8 (n-1-t) from by unfold fat2;rw [if_pos hlt7]]
       obtain⟨z,hz⟩:∃ z,2*s+(f 8 (n-1-t)).toNat=z:=⟨_,rfl⟩
       rw [hz] at hcb hy
       have HZ:=Aside0.mk hy
       clear hz hy
       go_wp2_with (go_at_call 84;refine hcb.mono ?_;rintro e w' ⟨rfl,rfl⟩)
       go_round
       case rel=>exact⟨t+1,z,by omega,by go_num,rfl,HZ⟩
       case measure=>simp [intOf];omega
      ·have:t=7:=by omega
       subst this
       go_wp2
       go_loop [8,11] (fun va vi=>∃ t s:Nat,t<=8/\vi=.int .i64 ((n:Int)-8+(t:Int))/\va=.int .i64 (s:Int)/\Aside0 (s=nacc (fat2 f n) (7+t))) (fun _ vi=>((n:Int)-intOf vi).toNat)
       case atStart=>exact⟨0,s,by omega,by go_num,rfl,HS⟩
       case round=>
        obtain⟨t,s,ht,rfl,rfl,HS⟩:=hrel
        have hsl:s<32768:=by have:=nacc_small (fat2 f n) (7+t) (by omega);have:=HS.out;omega
        by_cases hlt8:t<8
        ·have hcb:=copyBit w p g b n n f x1 (.pointer none) (n-8+t) 8 s HB.out HG.out (by omega) (by omega) (by omega) (by omega) (by omega)
         rw [show ((n-8+t:Nat):Int)=(n:Int)-8+(t:Int) by omega] at hcb
         have hy:2*s+(f (n-8+t) 8).toNat=nacc (fat2 f n) (7+(t+1)):=by
          rw [show 7+(t+1)=7+t+1 by omega,nacc,<- HS.out,show fat2 f n (7+t)=f (n-8+t) 8 from by unfold fat2;rw [if_neg (by omega),show n-15+(7+t)=n-8+t by omega]]
         obtain⟨z,hz⟩:∃ z,2*s+(f (n-8+t) 8).toNat=z:=⟨_,rfl⟩
         rw [hz] at hcb hy
         have HZ:=Aside0.mk hy
         clear hz hy
         go_wp2_with (go_at_call 84;refine hcb.mono ?_;rintro e w' ⟨rfl,rfl⟩)
         go_round
         case rel=>exact⟨t+1,z,by omega,by go_num,rfl,HZ⟩
         case measure=>simp [intOf];omega
        ·have:t=8:=by omega
         subst this
         have HA2:=Aside0.mk (show s=nacc (fat2 f n) 15 from HS.out)
         have hdec:=decFmt w y s d (by omega) (by omega) hd (by rw [HA.out,HA2.out];exact HD.out)
         go_wp2_with (go_at_call 88;refine hdec.mono ?_;rintro e w' ⟨q,rfl,hq,hF,hBw⟩;have hPb:=HB.out.below hBw HB.out.lt;have d0:=hPb.cell 0;have d2:=hPb.cell 2;have d3:=hPb.frozen 2;have HF:=Aside0.mk hF;have HBW:=Aside0.mk hBw;have HPB:=Aside0.mk hPb;clear hF hBw hPb)
         go_ret2
         have hu:Upd w (w'.setCell ⟨p,2,none⟩ (.pointer (some ⟨q,0,none⟩))) p:=(Upd.of_below HBW.out p).trans (Upd.set _ _ _ _)
         refine⟨q,rfl,(Upd.set w' p 2 (.pointer (some ⟨q,0,none⟩))).blk HF.out (blk_ne HF.out HPB.out (by decide)),⟨x1,blk_set HPB.out 2 _,?_⟩,hu⟩
         rcases HX.out with h | ⟨pv,h,hV⟩
         ·exact .inl h
         ·exact .inr ⟨pv,h,(hV.upd (Upd.of_below HBW.out p) HB.out).upd (Upd.set w' p 2 (.pointer (some ⟨q,0,none⟩))) HPB.out⟩
def ints (xs:List Nat):List Int:=xs.map fun (x:Nat)=>(x:Int)
theorem ints_len (xs:List Nat):(ints xs).length=xs.length:=by simp [ints]
theorem ints_get (xs:List Nat)(i:Nat):(ints xs).getD i 0=((xs.getD i 0:Nat):Int):=by
 unfold ints
 rw [List.getD_eq_getElem?_getD,List.getD_eq_getElem?_getD,List.getElem?_map]
 cases xs[i]?<;>rfl
def strip (xs:List Nat):List Nat:=match xs.dropWhile (·==0) with | []=>[0] | y :: ys=>y :: ys
theorem strip_lead {xs:List Nat}(h:xs.length=1\/xs.getD 0 0≠0)(h0:xs≠[]):strip xs=xs:=by
 unfold strip
 cases xs with
 | nil=>exact absurd rfl h0
 | cons x xs=>
  by_cases hx:x=0
  ·subst hx
   rcases h with h | h
   ·have:xs=[]:=by simpa using h
    subst this
    rfl
   ·exact absurd rfl h
  ·rw [List.dropWhile_cons,if_neg (by simpa using hx)]
theorem drop_zeros:∀ (xs:List Nat) (k:Nat),k<=xs.length->(∀ i,i<k->xs.getD i 0=0)->xs.dropWhile (·==0)=(xs.drop k).dropWhile (·==0):=by
 intro xs
 induction xs with
 | nil=>intro k hk _;simp at hk;subst hk;rfl
 | cons x xs ih=>
  intro k hk h
  cases k with
  | zero=>rfl
  | succ k=>
   have hx:x=0:=h 0 (by omega)
   subst hx
   rw [List.dropWhile_cons,if_pos (by rfl),List.drop_succ_cons]
   exact ih k (by simpa using hk) (fun i hi=>by have:=h (i+1) (by omega);simpa using this)
theorem strip_drop {xs:List Nat}{k:Nat}(hk:k<xs.length)(h:∀ i,i<k->xs.getD i 0=0)(hx:xs.getD k 0≠0):strip xs=xs.drop k:=by
 unfold strip
 rw [drop_zeros xs k (by omega) h,List.drop_eq_getElem_cons hk]
 have:xs[k]≠0:=by rw [List.getD_eq_getElem?_getD,List.getElem?_eq_getElem hk] at hx;exact hx
 rw [List.dropWhile_cons,if_neg (by simpa using this)]
theorem strip_none {xs:List Nat}(h:∀ i,i<xs.length->xs.getD i 0=0):strip xs=[0]:=by
 unfold strip
 rw [drop_zeros xs xs.length (Nat.le_refl _) h,List.drop_length]
 rfl
theorem info3i:(Tryz.prog.info? 3).map (fun i=>(i.zero,i.size,i.bytes))=some (some (.int .i64 0),1,8):=by kernel_rfl
def IBlk (w:World)(g:Nat)(xs:List Nat):Prop:=Blk w g 3 (nums .i64 (ints xs)).toArray
theorem IBlk.cell {w:World}{g:Nat}{xs:List Nat}(h:IBlk w g xs)(i:Nat)(hi:i<xs.length):w.cell? ⟨g,i,none⟩=some (.int .i64 ((xs.getD i 0:Nat):Int)):=by
 have:=Blk.ucell h (i:Int) (by omega) (by rw [ints_len];omega)
 rw [Int.toNat_natCast] at this
 rw [this,<- ints_get]
 unfold rd
 rw [Int.toNat_natCast]
theorem IBlk.set {w:World}{g:Nat}{xs:List Nat}(h:IBlk w g xs)(i v:Nat):IBlk (w.setCell ⟨g,i,none⟩ (.int .i64 (v:Int))) g (xs.set i v):=by
 have:=Blk.uset h i (v:Int)
 unfold IBlk
 rw [show ints (xs.set i v)=(ints xs).set i (v:Int) from by simp [ints,List.map_set]]
 exact this
def IRow (w:World)(g o:Nat)(xs:List Nat):Prop:=∃ ys,IBlk w g ys/\o+xs.length<=ys.length/\∀ i,i<xs.length->ys.getD (o+i) 0=xs.getD i 0
theorem IRow.at_ {w:World}{g o:Nat}{xs:List Nat}(h:IRow w g o xs)(i:Nat)(hi:i<xs.length):w.cell? ⟨g,o+i,none⟩=some (.int .i64 ((xs.getD i 0:Nat):Int)):=by
 obtain⟨ys,h1,h2,h3⟩:=h
 rw [h1.cell (o+i) (by omega),h3 i hi]
theorem IRow.whole {w:World}{g:Nat}{xs:List Nat}(h:IBlk w g xs):IRow w g 0 xs:=⟨xs,h,by omega,fun i _=>by rw [Nat.zero_add]⟩
theorem IRow.drop {w:World}{g o:Nat}{xs:List Nat}(h:IRow w g o xs)(k:Nat)(hk:k<=xs.length):IRow w g (o+k) (xs.drop k):=by
 obtain⟨ys,h1,h2,h3⟩:=h
 refine⟨ys,h1,by rw [List.length_drop];omega,fun i hi=>?_⟩
 rw [List.length_drop] at hi
 rw [Nat.add_assoc,h3 (k+i) (by omega),List.getD_eq_getElem?_getD,List.getD_eq_getElem?_getD,List.getElem?_drop]
theorem IRow.move {w w':World}{g o:Nat}{xs:List Nat}(h:IRow w g o xs)(hm:w'.heap[g]? = w.heap[g]?):IRow w' g o xs:=by
 obtain⟨ys,h1,h2,h3⟩:=h
 exact⟨ys,hm.trans h1,h2,h3⟩
theorem IRow.lt {w:World}{g o:Nat}{xs:List Nat}(h:IRow w g o xs):g<w.heap.size:=by
 obtain⟨ys,h1,h2,h3⟩:=h
 exact Blk.lt h1
theorem IRow.below {w w':World}{g o B:Nat}{xs:List Nat}(h:IRow w g o xs)(hb:Below B w w')(hg:g<B):IRow w' g o xs:=h.move (hb.block g hg)
theorem IRow.ne {w:World}{g o p:Nat}{t:TypeId}{cs:Array Value}{xs:List Nat}(h:IRow w g o xs)(hp:Blk w p t cs)(ht:3≠t):g≠p:=by
 obtain⟨ys,h1,h2,h3⟩:=h
 exact blk_ne h1 hp ht
theorem cut_int (g o n c k:Nat)(hk:k<=n)(hc:k<c)(W:World):(Instr.slice 93 (.slice (some ⟨g,o,none⟩) n c) (some (.int .i64 (k:Int))) none none).run Tryz.prog W=.ok (.slice (some ⟨g,o+k,none⟩) (n-k) (c-k)) W:=by
 obtain⟨i,hi,hz,hs,hb⟩:=info_parts info3i
 have hel:Tryz.prog.elem 93=3:=by simp [Program.elem,Tryz.underlying93]
 have hu:Tryz.prog.underlying 93=some (.slice (Tryz.prog.elem 93)):=by rw [hel];exact Tryz.underlying93
 rw [run_slice_l W 93 (some ⟨g,o,none⟩) n c hu .i64 (k:Int) (Int.natCast_nonneg _) (by omega),hel]
 have e:(⟨g,o,none⟩:Addr).add k=⟨g,o+k,none⟩:=by
  unfold Addr.add
  by_cases h:k=0
  ·subst h;simp
  ·simp [h]
 simp [sizeOf,typeInfo,hi,hs,sliced,Result.andThen,show ¬ c=k by omega,e]
def PolyAt (w:World)(q gf:Nat)(xs:List Nat):Prop:=∃ g o c,Blk w q 253 #[.pointer (some ⟨gf,0,none⟩),.slice (some ⟨g,o,none⟩) xs.length c]/\xs.length<=c/\IRow w g o xs/\xs≠[]
theorem PolyAt.below {w w':World}{q gf B:Nat}{xs:List Nat}(h:PolyAt w q gf xs)(hb:Below B w w')(hB:w.heap.size<=B):PolyAt w' q gf xs:=by
 obtain⟨g,o,c,h1,h2,h3,h4⟩:=h
 exact⟨g,o,c,h1.below hb (by have:=h1.lt;omega),h2,h3.below hb (by have:=h3.lt;omega),h4⟩
theorem PolyAt.upd {w w':World}{q gf p:Nat}{t:TypeId}{cs:Array Value}{xs:List Nat}(h:PolyAt w q gf xs)(hu:Upd w w' p)(hp:Blk w p t cs)(h3:3≠t)(h4:253≠t):PolyAt w' q gf xs:=by
 obtain⟨g,o,c,k1,k2,k3,k4⟩:=h
 exact⟨g,o,c,hu.blk k1 (blk_ne k1 hp h4),k2,k3.move (hu.block g k3.lt (k3.ne hp h3)),k4⟩
def NewPoly (w:World)(gf:Nat)(xs:List Nat)(e:Ending)(w':World):Prop:=∃ q,e=.returned (.tuple #[.pointer (some ⟨q,0,none⟩),.nilIface])/\w.heap.size<=q/\PolyAt w' q gf xs/\Below w.heap.size w w'
theorem newPoly_lead (w:World)(gf g o c:Nat)(xs:List Nat)(hr:IRow w g o xs)(hc:xs.length<=c)(h0:xs≠[])(h1:xs.length=1\/xs.getD 0 0≠0)(hl:xs.length<=100000) :
  Calls Tryz.prog 146 #[.pointer (some ⟨gf,0,none⟩),.slice (some ⟨g,o,none⟩) xs.length c] w (NewPoly w gf xs):=by
 have hpos:0<xs.length:=by cases xs with | nil=>exact absurd rfl h0 | cons _ _=>simp
 have k0:w.cell? ⟨g,o,none⟩=_:=hr.at_ 0 hpos
 obtain⟨n,hn⟩:∃ n,xs.length=n:=⟨_,rfl⟩
 obtain⟨x,hx⟩:∃ x,xs.getD 0 0=x:=⟨_,rfl⟩
 rw [hx] at k0 h1
 have ka:∀ ob,(w.alloc ob).cell? ⟨g,o,none⟩=some (.int .i64 (x:Int)):=fun ob=>pw_cell_below (below_alloc (Below.refl _ _) ob) k0
 rw [hn] at hc hl hpos h1
 have HR:=Aside0.mk hr
 have HN:=Aside0.mk hn
 have hfin:∀ w',w'=w.alloc (.cells #[.pointer (some ⟨gf,0,none⟩),.slice (some ⟨g,o,none⟩) n c] 253)->NewPoly w gf xs (.returned (.tuple #[.pointer (some ⟨w.heap.size,0,none⟩),.nilIface])) w':=by
  rintro w' rfl
  exact⟨_,rfl,Nat.le_refl _,⟨g,o,c,by rw [HN.out];exact Blk.new _ _ _,by rw [HN.out];exact hc,HR.out.below (below_alloc (Below.refl _ _) _) HR.out.lt,h0⟩,below_alloc (Below.refl _ _) _⟩
 have HF:=Aside0.mk hfin
 rw [hn]
 clear hr hn hx hfin
 by_cases h2:n=1
 ·subst h2
  clear h1
  go_enter Tryz.func146,Tryz.ntmps146
  go_wp2
  go_ret2
  exact HF.out _ rfl
 ·have h3:1<n:=by omega
  have h4:x≠0:=by rcases h1 with h | h;exact absurd h h2;exact h
  have h5:((x:Int)==0)=false:=by simpa using (fun h:(x:Int)=0=>h4 (by omega))
  clear h1 h2 h4
  go_enter Tryz.func146,Tryz.ntmps146
  go_wp2
  go_ret2
  exact HF.out _ rfl
theorem newPoly (w:World)(gf g o c:Nat)(xs:List Nat)(hr:IRow w g o xs)(hc:xs.length<=c)(h0:xs≠[])(hl:xs.length<=100000) :
  Calls Tryz.prog 146 #[.pointer (some ⟨gf,0,none⟩),.slice (some ⟨g,o,none⟩) xs.length c] w (NewPoly w gf (strip xs)):=by
 by_cases hlead:xs.length=1\/xs.getD 0 0≠0
 ·rw [strip_lead hlead h0]
  exact newPoly_lead w gf g o c xs hr hc h0 hlead hl
 ·have hpos:0<xs.length:=by cases xs with | nil=>exact absurd rfl h0 | cons _ _=>simp
  have hn1:1<xs.length:=by
   have:¬ xs.length=1:=fun h=>hlead (.inl h)
   omega
  have hz:xs.getD 0 0=0:=by
   apply Decidable.byContradiction
   exact fun h=>hlead (.inr h)
  have k0:w.cell? ⟨g,o,none⟩=_:=hr.at_ 0 hpos
  rw [hz] at k0
  have ka:∀ ob,(w.alloc ob).cell? ⟨g,o,none⟩=some (.int .i64 0):=fun ob=>pw_cell_below (below_alloc (Below.refl _ _) ob) k0
  obtain⟨n,hn⟩:∃ n,xs.length=n:=⟨_,rfl⟩
  rw [hn] at hc hl hpos hn1
  have HR:=Aside0.mk hr
  have HN:=Aside0.mk hn
  have HZ:=Aside0.mk hz
  have H0:=Aside0.mk h0
  rw [hn]
  clear hr hn hz h0 hlead k0
  go_enter Tryz.func146,Tryz.ntmps146
  go_wp2
  obtain⟨w1,hw1⟩:∃ w1,w1=w.alloc (.cells #[.pointer (some ⟨gf,0,none⟩),.slice none 0 0] 253):=⟨_,rfl⟩
  rw [<- hw1]
  obtain⟨B0,hh⟩:∃ B0,B0=w.heap.size:=⟨_,rfl⟩
  rw [<- hh]
  have HBlk:=Aside0.mk (show Blk w1 B0 253 #[.pointer (some ⟨gf,0,none⟩),.slice none 0 0] by rw [hw1,hh];exact Blk.new _ _ _)
  have HB1:=Aside0.mk (show Below B0 w w1 by rw [hw1,hh];exact below_alloc (Below.refl _ _) _)
  have HR1:=Aside0.mk (show IRow w1 g o xs by rw [hw1];exact HR.out.below (below_alloc (Below.refl _ _) _) HR.out.lt)
  have HW:=Aside0.mk hw1
  have HH:=Aside0.mk hh
  have f1:=HBlk.out.frozen 1
  have c1:w1.cell? ⟨B0,1,none⟩=some (.slice none 0 0):=HBlk.out.cell 1
  clear hw1 hh ka
  go_loop [8] (fun v=>∃ k:Nat,1<=k/\k<=n/\v=.int .i64 (k:Int)/\Aside0 (∀ i,i<k->xs.getD i 0=0)) (fun v=>(n-intOf v).toNat)
  case atStart=>exact⟨1,by omega,by omega,rfl,⟨fun i hi=>(show i=0 by omega) ▸ HZ.out⟩⟩
  case round=>
   obtain⟨k,hk1,hk,rfl,HK⟩:=hrel
   by_cases hlt:k<n
   ·have kc:=HR1.out.at_ k (by have:=HN.out;omega)
    obtain⟨x,hx⟩:∃ x,xs.getD k 0=x:=⟨_,rfl⟩
    rw [hx] at kc
    by_cases hx0:x=0
    ·subst hx0
     have HX:=Aside0.mk hx
     clear hx
     go_wp2
     go_round
     case rel=>exact⟨k+1,by omega,by omega,by go_num,⟨fun i hi=>by
      by_cases hik:i=k
      ·rw [hik];exact HX.out
      ·exact HK.out i (by omega)⟩⟩
     case measure=>simp [intOf];omega
    ·have hb:((x:Int)==0)=false:=by simpa using (fun h:(x:Int)=0=>hx0 (by omega))
     have HX:=Aside0.mk hx
     have HX0:=Aside0.mk hx0
     have hkn:((k:Int)==(n:Int))=false:=by simpa using (fun h:(k:Int)=(n:Int)=>by omega)
     have hrun:=cut_int g o n c k (by omega) (by omega)
     clear hx hx0
     go_wp2
     go_ret2
     have hst:=strip_drop (xs:=xs) (k:=k) (by have:=HN.out;omega) HK.out (by rw [HX.out];exact HX0.out)
     have hlen:(xs.drop k).length=n-k:=by rw [List.length_drop,HN.out]
     have hw':(w1.setCell ⟨B0,1,none⟩ (.slice (some ⟨g,o+k,none⟩) (n-k) (c-k)))=w.alloc (.cells #[.pointer (some ⟨gf,0,none⟩),.slice (some ⟨g,o+k,none⟩) (n-k) (c-k)] 253):=by
      rw [HW.out,HH.out,alloc_set];rfl
     rw [hw',hst,HH.out]
     refine⟨w.heap.size,rfl,Nat.le_refl _,⟨g,o+k,c-k,by rw [hlen];exact Blk.new _ _ _,by rw [hlen];omega,?_,?_⟩,below_alloc (Below.refl _ _) _⟩
     ·exact (HR.out.drop k (by have:=HN.out;omega)).below (below_alloc (Below.refl _ _) _) HR.out.lt
     ·intro h0
      rw [h0] at hlen
      simp at hlen
      omega
   ·have:k=n:=by omega
    subst this
    have c1a:∀ o,(w1.alloc o).cell? ⟨B0,1,none⟩=some (.slice none 0 0):=fun o=>(HBlk.out.alloc o).cell 1
    have f1a:∀ o,(w1.alloc o).frozen? ⟨B0,1,none⟩=false:=fun o=>(HBlk.out.alloc o).frozen 1
    go_wp2
    go_ret2
    have hst:=strip_none (xs:=xs) (fun i hi=>HK.out i (by have:=HN.out;omega))
    rw [hst]
    obtain⟨w2,hw2⟩:∃ w2,w2=w1.alloc (.cells #[.int .i64 0] 3):=⟨_,rfl⟩
    have hb2:Below B0 w w2:=by rw [hw2,HH.out];have h1:=HB1.out;rw [HH.out] at h1;exact below_alloc h1 _
    have hs1:w1.heap.size=B0+1:=by rw [HW.out,HH.out];simp
    have k2:Blk w2 B0 253 #[.pointer (some ⟨gf,0,none⟩),.slice none 0 0]:=by rw [hw2];exact HBlk.out.alloc _
    have k3:IBlk w2 w1.heap.size [0]:=by rw [hw2];exact Blk.new _ _ _
    rw [<- hw2]
    have hu:=Turn.set w2 B0 1 (.slice (some ⟨w1.heap.size,0,none⟩) 1 1)
    refine⟨B0,rfl,by rw [HH.out];exact Nat.le_refl _,⟨w1.heap.size,0,1,?_,Nat.le_refl _,?_,by simp⟩,?_⟩
    ·exact blk_set k2 1 _
    ·exact IRow.whole (hu.blk k3 (by omega))
    ·rw [<- HH.out]
     exact hb2.trans (hu.below (Nat.le_refl _))
theorem make_int (n:Nat)(h:n<=1000000000)(w:World):(Instr.makeSlice 93 (.int .i64 (n:Int)) (.int .i64 (n:Int))).run Tryz.prog w=.ok (.slice (some ⟨w.heap.size,0,none⟩) n n) (w.alloc (.cells (nums .i64 (ints (List.replicate n 0))).toArray 3)):=by
 obtain⟨i,hi,hz,hs,hb⟩:=info_parts info3i
 have:=run_make_rowN (P:=Tryz.prog) 93 3 i (.int .i64 0) Tryz.underlying93 hi hz .i64 .i64 n n (Nat.le_refl _) (by rw [hb];omega) (by omega) w
 have e:madeCells (Value.int .i64 0).cells (n*1)=(nums .i64 (ints (List.replicate n 0))).toArray:=by
  apply Array.toList_inj.1
  rw [Nat.mul_one]
  exact (toList_madeCells_one _ _).trans (by simp [nums,ints])
 rw [this,hs,e]
theorem getD_set_nat (xs:List Nat)(i j v:Nat)(hi:i<xs.length):(xs.set i v).getD j 0=if i=j then v else xs.getD j 0:=by
 rw [List.getD_eq_getElem?_getD,List.getD_eq_getElem?_getD,List.getElem?_set]
 by_cases e:i=j
 ·subst e;simp [hi]
 ·simp [e]
def expsTo (m p n i:Nat):List Nat:=(List.range i).map (gx m p)++List.replicate (n-i) 0
theorem expsTo_len (m p n i:Nat)(h:i<=n):(expsTo m p n i).length=n:=by unfold expsTo;simp;omega
theorem expsTo_set (m p n i:Nat)(h:i<n):(expsTo m p n i).set i (gx m p i)=expsTo m p n (i+1):=by
 unfold expsTo
 have hl:((List.range i).map (gx m p)).length=i:=by simp
 rw [List.set_append_right _ _ (by omega),hl,Nat.sub_self,show n-i=(n-(i+1))+1 by omega,List.replicate_succ,List.set_cons_zero,List.range_succ,List.map_append,List.append_assoc]
 rfl
def exps (m p:Nat):List Nat:=(List.range (2 ^ m)).map (gx m p)
theorem expsTo_all (m p:Nat):expsTo m p (2 ^ m) (2 ^ m)=exps m p:=by unfold expsTo exps;simp
theorem exps_len (m p:Nat):(exps m p).length=2 ^ m:=by simp [exps]
theorem exps_get (m p i:Nat)(h:i<2 ^ m):(exps m p).getD i 0=gx m p i:=by
 unfold exps
 rw [List.getD_eq_getElem?_getD,List.getElem?_map,List.getElem?_range h]
 rfl
structure Logs (m p n:Nat)(ls:List Nat):Prop where
 len:ls.length=2 ^ m
 log:∀ i,i<n->ls.getD (gx m p i) 0=i
theorem Logs.step {m p n:Nat}{ls:List Nat}(F:Fld m p)(hP:Prim m p)(h:Logs m p n ls)(hn:n<2 ^ m-1):Logs m p (n+1) (ls.set (gx m p n) n):=by
 refine⟨by rw [List.length_set,h.len],fun i hi=>?_⟩
 rw [getD_set_nat _ _ _ _ (by rw [h.len];exact gx_lt F n)]
 by_cases e:i=n
 ·subst e;rw [if_pos rfl]
 ·rw [if_neg,h.log i (by omega)]
  intro he
  exact e (gx_inj F hP i n (by omega) hn he.symm)
def GFAt (w:World)(gf m p b:Nat):Prop:=∃ ge gl zp op ls,Blk w gf 233 #[.slice (some ⟨ge,0,none⟩) (2 ^ m) (2 ^ m),.slice (some ⟨gl,0,none⟩) (2 ^ m) (2 ^ m),.pointer (some ⟨zp,0,none⟩),.pointer (some ⟨op,0,none⟩),.int .i64 ((2 ^ m:Nat):Int),.int .i64 (p:Int),.int .i64 (b:Int)]/\
 IBlk w ge (exps m p)/\IBlk w gl ls/\Logs m p (2 ^ m-1) ls/\PolyAt w zp gf [0]/\PolyAt w op gf [1]
theorem GFAt.below {w w':World}{gf m p b B:Nat}(h:GFAt w gf m p b)(hb:Below B w w')(hB:w.heap.size<=B):GFAt w' gf m p b:=by
 obtain⟨ge,gl,zp,op,ls,h1,h2,h3,h4,h5,h6⟩:=h
 exact⟨ge,gl,zp,op,ls,h1.below hb (by have:=h1.lt;omega),Blk.below h2 hb (by have:=Blk.lt h2;omega),Blk.below h3 hb (by have:=Blk.lt h3;omega),h4,h5.below hb hB,h6.below hb hB⟩
theorem double_small {m p x:Nat}(F:Fld m p)(hx:x<2 ^ m)(h:2*x<2 ^ m):gl m p x=2*x:=by
 unfold gl
 have hb:x.testBit (m-1)=false:=by
  apply Nat.testBit_lt_two_pow
  have:2 ^ m=2*2 ^ (m-1):=by rw [<- Nat.pow_succ'];congr 1;have:=F.one;omega
  omega
 rw [hb,if_neg (by simp),Nat.xor_zero]
theorem double_great {m p x:Nat}(F:Fld m p)(hx:x<2 ^ m)(h:2 ^ m<=2*x):gl m p x=2*x ^^^ p:=by
 unfold gl
 have e:2 ^ m=2*2 ^ (m-1):=by rw [<- Nat.pow_succ'];congr 1;have:=F.one;omega
 have hb:x.testBit (m-1)=true:=by
  rw [Nat.testBit_eq_decide_div_mod_eq,decide_eq_true_eq]
  have h2:x/2 ^ (m-1)=1:=by
   apply Nat.div_eq_of_lt_le<;>omega
  rw [h2]
 rw [hb,if_pos rfl]
end Go.Proofs.YtgccjgpdjkhpdaaGreat.B
