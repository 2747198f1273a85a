import Derived.Laws.BitsAllLaws
import Derived.Laws.Bits128
import Derived.Deep.RegionWith
import Derived.BigQuiet
import Derived.Test.YtgccjgpdjkhpdaaGreatVErrors6
import Derived.Test.YtgccjgpdjkhpdaaGreatVErrors7
import Derived.Test.YtgccjgpdjkhpdaaGreatVErrors8
open Go.Proofs.YtgccjgpdjkhpdaaGreatW.PrintWords.Aside0 renaming mk→Mw
open Nat renaming le_refl→Mx,le_trans→Mz,pow_le_pow_right→MC,lt_of_lt_of_le→MD,zero_add→ME,and_two_pow_sub_one_eq_mod→MF,and_le_left→MG,testBit_two_pow_mul_add→MH
open List renaming getD_eq_getElem?_getD→My,replicate→MA,getElem?_eq_getElem→MB,drop_eq_getElem_cons→MI,dropWhile_cons→MJ
/-! Own texts of this claim, part 4. -/
namespace Go.Proofs.YtgccjgpdjkhpdaaGreat.B
open Go.RowKit Go.Proofs.YtgccjgpdjkhpdaaGreatW.PrintWords Go.Proofs.YtgccjgpdjkhpdaaGreatW.PrintLast Go.Proofs.YtgccjgpdjkhpdaaGreatW.PrintMore
set_option linter.unusedVariables false
set_option linter.unusedSimpArgs false
def hd (a b:Nat):Nat:=ba 64 (a ^^^ b)
theorem uo (k:Nat):ba k 0=0:=by
 induction k with
 | zero=>rfl
 | succ k ih=>rw [ba,Nat.zero_div,ih]
theorem JU:∀ (k x y:Nat),ba k (x ^^^ y)<=ba k x+ba k y:=by
 intro k
 induction k with
 | zero=>intro x y;exact Nat.zero_le _
 | succ k ih=>
  intro x y;rw [ba,ba,ba,Nat.xor_div_two];have:=ih (x/2) (y/2);have h:(x ^^^ y)%2<=x%2+y%2:=by
   have e:=Nat.xor_mod_two_pow (a:=x) (b:=y) (n:=1);simp only [Nat.pow_one] at e;rw [e];rcases Nat.mod_two_eq_zero_or_one x with h1 | h1<;>rcases Nat.mod_two_eq_zero_or_one y with h2 | h2<;>rw [h1,h2]<;>decide
  omega
theorem ur (a b:Nat):hd a b=hd b a:=by unfold hd;rw [Nat.xor_comm]
theorem us (a:Nat):hd a a=0:=by unfold hd;rw [Nat.xor_self,uo]
theorem ut (a b c:Nat):hd a c<=hd a b+hd b c:=by
 unfold hd;have:a ^^^ c=(a ^^^ b) ^^^ (b ^^^ c):=by
  rw [Nat.xor_assoc,<- Nat.xor_assoc b b c,Nat.xor_self,Nat.zero_xor]
 rw [this];exact JU _ _ _
def eb (a t d:Nat)(s:Nat×Nat):Nat×Nat:=if hd a t<s.1 then (hd a t,d) else s
def it (a b t d:Nat)(s:Nat×Nat):Nat×Nat:=if a=b then eb a t d s else eb b t d (eb a t d s)
def iR (a b:Nat):List (Nat×Nat)->Nat×Nat->Option Nat
 | [],s=>if s.1<=3 then some s.2 else none
 | (t,d) :: rows,s=>if t=a\/t=b then some d else iR a b rows (it a b t d s)
def Ah (a b:Nat)(x:Nat×Nat)(rows:List (Nat×Nat)):Prop:=hd a x.1<=3/\hd b x.1<=3/\∀ y∈rows,y=x\/4<=hd a y.1/\4<=hd b y.1
theorem rY (a t d:Nat)(s:Nat×Nat)(h:4<=hd a t)(hs:4<=s.1):4<=(eb a t d s).1:=by
 unfold eb
 split
 ·exact h
 exact hs
theorem rZ (a t d:Nat)(s:Nat×Nat)(h:4<=hd a t)(hs:s.1<=3):eb a t d s=s:=by
 unfold eb;rw [if_neg (by omega)]
theorem r6 (a t d:Nat)(s:Nat×Nat)(h:hd a t<=3)(hs:4<=s.1\/(s.1<=3/\s.2=d)):(eb a t d s).1<=3/\(eb a t d s).2=d:=by
 unfold eb
 split
 ·exact⟨h,rfl⟩
 rcases hs with hs | hs
 ·omega
 exact hs
theorem JV (a b:Nat)(x:Nat×Nat):∀ (rows:List (Nat×Nat)) (s:Nat×Nat),Ah a b x rows->(s.1<=3/\s.2=x.2)\/(4<=s.1/\x∈rows)->iR a b rows s=some x.2:=by
 intro rows
 induction rows with
 | nil=>
  intro s _ h;rcases h with⟨h1,h2⟩ | ⟨_,h⟩
  ·rw [iR,if_pos h1,h2]
  cases h
 | cons y rows ih=>
  intro s hi h;obtain⟨t,d⟩:=y;obtain⟨h1,h2,h3⟩:=hi;have hi':Ah a b x rows:=⟨h1,h2,fun z hz=>h3 z (List.mem_cons_of_mem _ hz)⟩;rw [iR];rcases h3 (t,d) (List.mem_cons_self ..) with e | ⟨f1,f2⟩
  ·subst e;by_cases he:t=a\/t=b
   ·rw [if_pos he]
   rw [if_neg he];refine ih _ hi' (.inl ?_);have hs:4<=s.1\/(s.1<=3/\s.2=d):=by
    rcases h with h | h
    ·exact .inr h
    exact .inl h.1
   unfold it
   split
   ·exact r6 a t d s h1 hs
   exact r6 b t d _ h2 (.inr (r6 a t d s h1 hs))
  simp only at f1 f2;rw [if_neg];rotate_left
  ·rintro (rfl | rfl)
   ·rw [us] at f1;omega
   rw [us] at f2;omega
  refine ih _ hi' ?_;rcases h with h | ⟨h,hm⟩
  ·refine .inl ?_;have:it a b t d s=s:=by
    unfold it
    split
    ·exact rZ a t d s f1 h.1
    rw [rZ a t d s f1 h.1];exact rZ b t d s f2 h.1
   rw [this];exact h
  refine .inr ⟨?_,?_⟩;rotate_left
  ·rcases List.mem_cons.1 hm with e | e
   rotate_left
   ·exact e
   subst e;have h1:hd a t<=3:=h1;omega
  unfold it
  split
  ·exact rY a t d s f1 h
  exact rY b t d _ f2 (rY a t d s f1 h)
def bp:List (Nat×Nat):=[(0x5412,0),(0x5125,1),(0x5E7C,2),(0x5B4B,3),(0x45F9,4),(0x40CE,5),(0x4F97,6),(0x4AA0,7),(0x77C4,8),(0x72F3,9),(0x7DAA,10),(0x789D,11),(0x662F,12),(0x6318,13),(0x6C41,14),(0x6976,15),
 (0x1689,16),(0x13BE,17),(0x1CE7,18),(0x19D0,19),(0x0762,20),(0x0255,21),(0x0D0C,22),(0x083B,23),(0x355F,24),(0x3068,25),(0x3F31,26),(0x3A06,27),(0x24B4,28),(0x2183,29),(0x2EDA,30),(0x2BED,31)]
theorem JW:∀ i:Fin 32,∀ k:Fin 32,i≠k->7<=hd (bp.getD i.val (0,0)).1 (bp.getD k.val (0,0)).1:=by decide +kernel
theorem JX {α:Type}(l:List α)(d x:α)(h:x∈l):∃ i,i<l.length/\l.getD i d=x:=by
 obtain⟨i,hi,e⟩:=List.getElem_of_mem h;exact⟨i,hi,by rw [My,MB hi,e];rfl⟩
theorem JY (k a b:Nat)(hk:k<32)(ha:hd a (bp.getD k (0,0)).1<=3)(hb:hd b (bp.getD k (0,0)).1<=3):iR a b bp (2147483647,0)=some (bp.getD k (0,0)).2:=by
 refine JV a b _ bp _ ⟨ha,hb,?_⟩ (.inr ⟨by decide,?_⟩);rotate_left
 ·have:k<bp.length:=hk;rw [My,MB this];exact List.getElem_mem this
 intro y hy;obtain⟨i,hi,e⟩:=JX bp (0,0) y hy;have hi:i<32:=hi;by_cases hik:i=k
 ·subst hik;exact .inl e.symm
 refine .inr ?_;have hf:=JW ⟨i,hi⟩ ⟨k,hk⟩ (by simpa using hik);simp only at hf;rw [e] at hf;have t1:=ut y.1 a (bp.getD k (0,0)).1;have t2:=ut y.1 b (bp.getD k (0,0)).1;rw [ur y.1 a] at t1;rw [ur y.1 b] at t2;omega
theorem JZ:∀ k:Fin 32,(bp.getD k.val (0,0)).2=k.val:=by decide
def lY (a:Nat):List Nat->Nat->Nat×Nat->Option Nat
 | [],_,s=>if s.1<=3 then some s.2 else none
 | t :: rows,i,s=>if t=a then some i else lY a rows (i+1) (eb a t i s)
theorem J6 (a x n:Nat):∀ (rows:List Nat) (i:Nat) (s:Nat×Nat),hd a x<=3->(∀ k t,rows[k]? = some t->(i+k=n/\t=x)\/4<=hd a t)->(s.1<=3/\s.2=n)\/(4<=s.1/\∃ k,rows[k]? = some x/\i+k=n)->lY a rows i s=some n:=by
 intro rows
 induction rows with
 | nil=>
  intro i s _ _ h;rcases h with⟨h1,h2⟩ | ⟨_,k,h,_⟩
  ·rw [lY,if_pos h1,h2]
  simp at h
 | cons t rows ih=>
  intro i s h1 h3 h;have h3':∀ k t',rows[k]? = some t'->(i+1+k=n/\t'=x)\/4<=hd a t':=by
   intro k t' hk;rcases h3 (k+1) t' (by simpa using hk) with⟨e1,e2⟩ | e
   ·exact .inl ⟨by omega,e2⟩
   exact .inr e
  rw [lY];rcases h3 0 t rfl with⟨e1,e2⟩ | f1
  ·subst e2;have e1:i=n:=e1;subst e1;by_cases he:t=a
   ·rw [if_pos he]
   rw [if_neg he];refine ih _ _ h1 h3' (.inl (r6 a t i s h1 ?_));rcases h with h | h
   ·exact .inr h
   exact .inl h.1
  rw [if_neg];rotate_left
  ·rintro rfl;rw [us] at f1;omega
  refine ih _ _ h1 h3' ?_;rcases h with h | ⟨h,k,hm,hk⟩
  ·exact .inl (by rw [rZ a t i s f1 h.1];exact h)
  refine .inr ⟨rY a t i s f1 h,?_⟩;cases k with
  | zero=>
   simp at hm;subst hm;omega
  | succ k=>exact⟨k,by simpa using hm,by omega⟩
def bS:List Nat:=[0x07C94,0x085BC,0x09A99,0x0A4D3,0x0BBF6,0x0C762,0x0D847,0x0E60D,0x0F928,0x10B78,0x1145D,0x12A17,0x13532,0x149A6,0x15683,0x168C9,0x177EC,0x18EC4,0x191E1,0x1AFAB,0x1B08E,0x1CC1A,0x1D33F,0x1ED75,0x1F250,0x209D5,0x216F0,0x228BA,0x2379F,0x24B0B,0x2542E,0x26A64,0x27541,0x28C69]
theorem J7:∀ i:Fin 34,∀ k:Fin 34,i≠k->7<=hd (bS.getD i.val 0) (bS.getD k.val 0):=by decide +kernel
theorem J8 (k a:Nat)(hk:k<34)(ha:hd a (bS.getD k 0)<=3):lY a bS 0 (2147483647,0)=some k:=by
 have hlen:bS.length=34:=rfl;refine J6 a (bS.getD k 0) k bS 0 _ ha ?_ (.inr ⟨by decide,k,?_,by omega⟩);rotate_left
 ·rw [My,MB (by omega)];rfl
 intro i t hi;have hil:i<bS.length:=(List.getElem?_eq_some_iff.1 hi).1;have e:bS.getD i 0=t:=by rw [My,hi];rfl
 by_cases hik:i=k
 ·subst hik;exact .inl ⟨by omega,e.symm⟩
 refine .inr ?_;have hf:=J7 ⟨i,by omega⟩ ⟨k,hk⟩ (by simpa using hik);simp only at hf;rw [e] at hf;have t1:=ut t a (bS.getD k 0);rw [ur t a] at t1;omega
def eY (b:Nat):Nat->Nat
 | 0=>0
 | k+1=>256*eY b k+b
theorem mO (q d M n:Nat)(hd:d<256)(hn:n<256):(256*q+d) &&& (256*M+n)=256*(q &&& M)+(d &&& n):=by
 apply Nat.eq_of_testBit_eq;intro i;have hdn:d &&& n<2 ^ 8:=Nat.and_lt_two_pow d hn;rw [Nat.testBit_and,show 256*q+d=2 ^ 8*q+d from rfl,show 256*M+n=2 ^ 8*M+n from rfl,show 256*(q &&& M)+(d &&& n)=2 ^ 8*(q &&& M)+(d &&& n) from rfl,
  MH q hd,MH M hn,MH _ hdn]
 by_cases h:i<8
 ·simp [h,Nat.testBit_and]
 simp [h,Nat.testBit_and]
def ed (k x:Nat):Nat:=(x/2 &&& eY 85 k)+(x &&& eY 85 k)
def fg (k y:Nat):Nat:=(y/4 &&& eY 51 k)+(y &&& eY 51 k)
theorem low1:∀ a:Fin 2,∀ d:Fin 256,(128*a.val+d.val/2) &&& 85=d.val/2 &&& 85:=by decide +kernel
theorem low2:∀ a:Fin 4,∀ d:Fin 256,(64*a.val+d.val/4) &&& 51=d.val/4 &&& 51:=by decide +kernel
theorem J9 (d:Nat):ed 1 d=(d/2 &&& 85)+(d &&& 85):=rfl
theorem Ka (d:Nat):fg 1 d=(d/4 &&& 51)+(d &&& 51):=rfl
theorem uu (k q d:Nat)(hd:d<256):ed (k+1) (256*q+d)=256*ed k q+ed 1 d:=by
 rw [J9];unfold ed;rw [eY,show (256*q+d)/2=256*(q/2)+(128*(q%2)+d/2) by omega,mO _ _ _ _ (by omega) (by omega),mO _ _ _ _ hd (by omega)];have:=low1 ⟨q%2,by omega⟩ ⟨d,hd⟩;simp only at this;rw [this];omega
theorem uv (k q d:Nat)(hd:d<256):fg (k+1) (256*q+d)=256*fg k q+fg 1 d:=by
 rw [Ka];unfold fg;rw [eY,show (256*q+d)/4=256*(q/4)+(64*(q%4)+d/4) by omega,mO _ _ _ _ (by omega) (by omega),mO _ _ _ _ hd (by omega)];have:=low2 ⟨q%4,by omega⟩ ⟨d,hd⟩;simp only at this;rw [this];omega
theorem uw:∀ d:Fin 256,ed 1 d.val<256/\fg 1 (ed 1 d.val)%16<=4/\fg 1 (ed 1 d.val)/16<=4/\(fg 1 (ed 1 d.val)/16+fg 1 (ed 1 d.val))%16=ba 8 d.val:=by decide +kernel
theorem Kb (k:Nat):ed k 0=0:=by unfold ed;simp
theorem Ke (k:Nat):fg k 0=0:=by unfold fg;simp
theorem ux (a:Nat):a &&& 15=a%16:=MF (n:=4) a
theorem swar (x0 x1 x2:Nat)(h0:x0<256)(h1:x1<256)(h2:x2<256) :
  ∃ a b c,fg 8 (ed 8 (256*(256*x2+x1)+x0))=256*(256*c+b)+a/\a%16<=4/\a/16<=4/\b%16<=4/\b/16<=4/\c%16<=4/\c/16<=4/\
   (a/16+a)%16=ba 8 x0/\(b/16+b)%16=ba 8 x1/\(c/16+c)%16=ba 8 x2:=by
 obtain⟨a1,a2,a3,a4⟩:=uw ⟨x0,h0⟩;obtain⟨b1,b2,b3,b4⟩:=uw ⟨x1,h1⟩;obtain⟨c1,c2,c3,c4⟩:=uw ⟨x2,h2⟩;simp only at a1 a2 a3 a4 b1 b2 b3 b4 c1 c2 c3 c4;refine⟨fg 1 (ed 1 x0),fg 1 (ed 1 x1),fg 1 (ed 1 x2),?_,a2,a3,b2,b3,c2,c3,a4,b4,c4⟩;have e6:ed 6 x2=ed 1 x2:=by
  have:=uu 5 0 x2 h2;rw [Kb,Nat.mul_zero,ME,ME] at this;exact this
 have f6:fg 6 (ed 1 x2)=fg 1 (ed 1 x2):=by
  have:=uv 5 0 (ed 1 x2) c1;rw [Ke,Nat.mul_zero,ME,ME] at this;exact this
 rw [uu 7 _ _ h0,uu 6 _ _ h1,e6,uv 7 _ _ a1,uv 6 _ _ b1,f6]
theorem st3 (a b c:Nat)(ha:a%16<=4/\a/16<=4)(hb:b%16<=4/\b/16<=4)(hc:c%16<=4/\c/16<=4) :
  ((256*(256*c+b)+a)/16+(256*(256*c+b)+a)) &&& eY 15 8=256*(256*((c/16+c)%16)+(b/16+b)%16)+(a/16+a)%16:=by
 have e:(256*(256*c+b)+a)/16+(256*(256*c+b)+a)=256*(256*(256*0+(c/16+c))+(16*(c%16)+b/16+b))+(16*(b%16)+a/16+a):=by omega
 rw [e,show eY 15 8=256*(256*(256*eY 15 5+15)+15)+15 from rfl,mO _ _ _ _ (by omega) (by omega),mO _ _ _ _ (by omega) (by omega),mO _ _ _ _ (by omega) (by omega),ux,ux,ux,Nat.zero_and];omega
theorem uy:∀ (i j x:Nat),ba (i+j) x=ba i x+ba j (x/2 ^ i):=by
 intro i
 induction i with
 | zero=>intro j x;simp [ba]
 | succ i ih=>
  intro j x;rw [Nat.add_right_comm,ba,ba,ih,Nat.pow_succ,Nat.mul_comm (2 ^ i) 2,<- Nat.div_div_eq_div_mul];omega
theorem Ai (i x:Nat):ba i (x%2 ^ i)=ba i x:=by
 rw [tR,tR];apply List.countP_congr;intro k hk;rw [List.mem_range] at hk;simp [Nat.testBit_mod_two_pow,hk]
theorem Kf (x:Nat)(h:x<16777216):ba 64 x=ba 8 (x%256)+ba 8 (x/256%256)+ba 8 (x/65536):=by
 rw [show 64=8+(8+(8+40)) from rfl,uy 8,uy 8,uy 8];have e1:ba 8 (x%256)=ba 8 x:=Ai 8 x;have e2:ba 8 (x/256%256)=ba 8 (x/256):=Ai 8 _;have e3:x/2 ^ 8/2 ^ 8/2 ^ 8=0:=by omega
 rw [e1,e2,e3,uo,show x/2 ^ 8/2 ^ 8=x/65536 by omega];show _+(_+(_+0))=_;rw [show x/2 ^ 8=x/256 from rfl];omega
theorem nY:∀ (k x:Nat),ba k x<=k:=by
 intro k
 induction k with
 | zero=>intro x;exact Mx _
 | succ k ih=>intro x;rw [ba];have:=ih (x/2);omega
theorem n0 (a:Int)(h0:0<=a)(h1:a<18446744073709551616):IntKind.u64.wrap a=a:=by
 have:IntKind.u64.wrap a=a%18446744073709551616:=by simp [IntKind.wrap,IntKind.bits,IntKind.signed]
 rw [this];exact Int.emod_eq_of_lt h0 h1
theorem sum3 (k0 k1 k2 u v z:Nat)(h0:k0<=8)(h1:k1<=8)(h2:k2<=8)(hu:u=256*(256*k2+k1)+k0)(hv:v=u+u/256+(u+u/256)/65536)(hz:z=v+v/4294967296):z%128=k0+k1+k2:=by
 have e1:u/256=256*k2+k1:=by omega
 have e2:u+u/256=65536*k2+256*(k1+k2)+(k0+k1):=by omega
 have e3:(u+u/256)/65536=k2:=by omega
 have e4:v=65536*k2+256*(k1+k2)+(k0+k1+k2):=by omega
 have e5:v/4294967296=0:=by omega
 omega
theorem oc64 (x:Nat)(hx:x<16777216):F.mQ.f (x:Int)=some ((ba 64 x:Nat):Int):=by
 obtain⟨a,b,c,hz,a1,a2,b1,b2,c1,c2,r0,r1,r2⟩:=swar (x%256) (x/256%256) (x/65536) (by omega) (by omega) (by omega);rw [show 256*(256*(x/65536)+x/256%256)+x%256=x by omega] at hz;have hs3:=st3 a b c ⟨a1,a2⟩ ⟨b1,b2⟩ ⟨c1,c2⟩;rw [r0,r1,r2] at hs3;have hp:=Kf x hx;have l0:=nY 8 (x%256);have l1:=nY 8 (x/256%256);have l2:=nY 8 (x/65536);obtain⟨p,hp1⟩:∃ p,x/2 &&& eY 85 8=p:=⟨_,rfl⟩;obtain⟨q,hq1⟩:∃ q,x &&& eY 85 8=q:=⟨_,rfl⟩;have pl:p<=x/2:=by rw [<- hp1];exact MG
 have ql:q<=x:=by rw [<- hq1];exact MG
 have hy:ed 8 x=p+q:=by unfold ed;rw [hp1,hq1]
 have f1:Go.bits .and .u64 ((x:Int)/2) 6148914691236517205=((p:Nat):Int):=by
  have:=u64_and_nat (x/2) (eY 85 8) (by omega) (by decide);rw [hp1] at this;rw [<- this];rfl
 have f2:Go.bits .and .u64 (x:Int) 6148914691236517205=((q:Nat):Int):=by
  have:=u64_and_nat x (eY 85 8) (by omega) (by decide);rw [hq1] at this;rw [<- this];rfl
 have f3:IntKind.u64.wrap (((p:Nat):Int)+((q:Nat):Int))=((p+q:Nat):Int):=by rw [n0 _ (by omega) (by omega)];omega
 obtain⟨s,hs1⟩:∃ s,(p+q)/4 &&& eY 51 8=s:=⟨_,rfl⟩;obtain⟨t,ht1⟩:∃ t,(p+q) &&& eY 51 8=t:=⟨_,rfl⟩;have sl:s<=(p+q)/4:=by rw [<- hs1];exact MG
 have tl:t<=p+q:=by rw [<- ht1];exact MG
 have hy2:fg 8 (p+q)=s+t:=by unfold fg;rw [hs1,ht1]
 rw [hy,hy2] at hz;have f4:Go.bits .and .u64 (((p+q:Nat):Int)/4) 3689348814741910323=((s:Nat):Int):=by
  have:=u64_and_nat ((p+q)/4) (eY 51 8) (by omega) (by decide);rw [hs1] at this;rw [<- this];rfl
 have f5:Go.bits .and .u64 ((p+q:Nat):Int) 3689348814741910323=((t:Nat):Int):=by
  have:=u64_and_nat (p+q) (eY 51 8) (by omega) (by decide);rw [ht1] at this;rw [<- this];rfl
 have f6:IntKind.u64.wrap (((s:Nat):Int)+((t:Nat):Int))=((s+t:Nat):Int):=by rw [n0 _ (by omega) (by omega)];omega
 have f7:IntKind.u64.wrap (((s+t:Nat):Int)/16+((s+t:Nat):Int))=(((s+t)/16+(s+t):Nat):Int):=by rw [n0 _ (by omega) (by omega)];omega
 obtain⟨u,hu⟩:∃ u,((s+t)/16+(s+t)) &&& eY 15 8=u:=⟨_,rfl⟩;have f8:Go.bits .and .u64 (((s+t)/16+(s+t):Nat):Int) 1085102592571150095=((u:Nat):Int):=by
  have:=u64_and_nat ((s+t)/16+(s+t)) (eY 15 8) (by omega) (by decide);rw [hu] at this;rw [<- this];rfl
 rw [hz,hs3] at hu;have f9:IntKind.u64.wrap (((u:Nat):Int)+((u:Nat):Int)/256)=((u+u/256:Nat):Int):=by rw [n0 _ (by omega) (by omega)];omega
 have f10:IntKind.u64.wrap (((u+u/256:Nat):Int)+((u+u/256:Nat):Int)/65536)=((u+u/256+(u+u/256)/65536:Nat):Int):=by rw [n0 _ (by omega) (by omega)];omega
 obtain⟨v,hv⟩:∃ v,u+u/256+(u+u/256)/65536=v:=⟨_,rfl⟩;rw [hv] at f10;have f11:IntKind.u64.wrap (((v:Nat):Int)+((v:Nat):Int)/4294967296)=((v+v/4294967296:Nat):Int):=by rw [n0 _ (by omega) (by omega)];omega
 obtain⟨z,hzz⟩:∃ z,v+v/4294967296=z:=⟨_,rfl⟩;rw [hzz] at f11;have f12:wrap64 ((z:Nat):Int)=((z:Nat):Int):=by unfold wrap64;omega
 have f13:Go.bits .and .i64 ((z:Nat):Int) 127=((ba 64 x:Nat):Int):=by
  have:=sum3 (ba 8 (x%256)) (ba 8 (x/256%256)) (ba 8 (x/65536)) u v z l0 l1 l2 hu.symm hv.symm hzz.symm;rw [i64_and127,hp,<- this];rfl
 unfold F.mQ.f;simp only [f1,f2,f3,f4,f5,f6,f7,f8,f9,f10,f11,f12,f13]
theorem uz (a b:Nat)(ha:a<16777216)(hb:b<16777216):F.mR.f (a:Int) (b:Int)=some ((hd a b:Nat):Int):=by
 unfold F.mR.f F.od.f;rw [u64_xor_nat a b (by omega) (by omega),oc64 _ (Nat.xor_lt_two_pow (n:=24) ha hb)];rfl
theorem n6 {w:World}{k:IntKind}{A:Option Addr}{xs:List Int}{n:Nat}(h:Kd.C (Kd.int k) w A n xs)(x:Nat)(hx:x<n):∃ ax,A=some ax/\w.cell? (ax.add x)=some (.int k (xs.getD x 0)):=by
 obtain⟨ad,c,hA,hl,hc,hg⟩:=Kd.mY h 0 (x:Int) (by omega) (by omega);rw [Int.toNat_natCast] at hc hg;refine⟨ad,hA,?_⟩;have:=hg 0 (.int k (xs.getD x 0)) (by rw [show c=[.int k (xs.getD x 0)] from hc];rfl)
 rw [show x*(Kd.int k).sz+0=x by show x*1+0=x;omega] at this
 exact this
theorem uA (w:World)(n:Nat)(h:1<=n/\n<=40) :
  Calls Tryz.prog 60 #[.int .i64 (n:Int)] w fun e w'=>∃ p,e=.returned (.tuple #[.pointer (some ⟨p,0,none⟩),.nilIface])/\w.heap.size<=p/\bT w' p (n:Int) (dw n)/\Below w.heap.size w w':=by
 have k:=E6 w n h;obtain⟨h1,h2⟩:=h
 go_enter Tryz.func60,Tryz.ntmps60
 go_wp2_with (go_at_call 104;refine k.mono ?_;rintro e w' ⟨p,rfl,hp,hv,hb⟩)
 have HV:=Mw hv;clear hv
 go_ret2
 exact⟨p,rfl,hp,HV.out,hb⟩
def pj:List Int:=bS.map fun (n:Nat)=>(n:Int)
theorem Kg:F.sh.f=some pj:=by decide +kernel
theorem Kh (w:World):Calls Tryz.prog 127 #[] w fun e w'=>∃ ad c,e=.returned (.slice (some ad) 34 c)/\34<=c/\(∀ i,i<34->w'.cell? (ad.add i)=some (.int .i64 ((bS.getD i 0:Nat):Int)))/\ad.block<w'.heap.size/\Below w.heap.size w w':=by
 refine (F.sh.calls pj w Kg).mono ?_;rintro e w' ⟨v,rfl,hR,hB⟩;obtain⟨A,c,rfl,hc,hC⟩:=Kd.kB hR;have hC:Kd.C (Kd.int .i64) w' A 34 pj:=hC;obtain⟨ax,rfl,h0⟩:=n6 hC 0 (by omega);refine⟨ax,c,rfl,hc,?_,?_,hB⟩;rotate_left
 ·have:=World.block_lt_of_cell? w' _ h0;have e0:ax.add 0=ax:=by unfold Addr.add;simp
  rw [e0] at this;exact this
 intro i hi;obtain⟨ay,e,h⟩:=n6 hC i hi;obtain rfl:ax=ay:=Option.some.inj e;have e2:pj.getD i 0=((bS.getD i 0:Nat):Int):=by
  unfold pj;rw [My,My,List.getElem?_map];cases bS[i]?<;>rfl
 rw [e2] at h;exact h
theorem Aj:∀ i:Fin 34,bS.getD i.val 0<262144:=by decide
def Ki (w:World)(n:Nat)(e:Ending)(w':World):Prop:=∃ p,e=.returned (.tuple #[.pointer (some ⟨p,0,none⟩),.nilIface])/\w.heap.size<=p/\bT w' p (n:Int) (dw n)/\Below w.heap.size w w'
def bvOf (best idx bv:Nat):Prop:=best<=3->bv=idx+7
def n7 (a k i best idx:Nat):Prop:=lY a (bS.drop i) i (best,idx)=some k
theorem Kj {a k i best idx:Nat}(hi:i<34)(h:n7 a k i best idx):(bS.getD i 0=a/\i=k)\/(bS.getD i 0≠a/\n7 a k (i+1) (eb a (bS.getD i 0) i (best,idx)).1 (eb a (bS.getD i 0) i (best,idx)).2):=by
 have hl:i<bS.length:=hi;have hd:bS.drop i=bS.getD i 0 :: bS.drop (i+1):=by
  rw [MI hl,My,MB hl];rfl
 unfold n7 at h ⊢;rw [hd,lY] at h
 split at h
 ·exact .inl ⟨‹_›,Option.some.inj h⟩
 exact .inr ⟨‹_›,h⟩
set_option maxHeartbeats 1000000 in
theorem Kk (w:World)(a k:Nat)(hk:k<34)(ha:a<262144)(hd:hd a (bS.getD k 0)<=3) :
  Calls Tryz.prog 85 #[.int .i64 (a:Int)] w (Ki w (k+7)):=by
 have H0:=Mw (show n7 a k 0 2147483647 0 from J8 k a hk hd);clear hd
 go_enter Tryz.func85,Tryz.ntmps85
 go_wp2_with (go_at_call 127;refine (Kh _).mono ?_;rintro e w' ⟨ad,c,rfl,hc,hcell,hlt,hb⟩)
 have HC:=Mw hcell;have HB:=Mw hb;obtain⟨w1,rfl⟩:∃ w1:World,w1=w':=⟨_,rfl⟩;clear hcell hb
 go_loopw [4,5,11] (fun vb vv vi wr=>∃ i best idx bv:Nat,i<=34/\vb=.int .i64 (best:Int)/\vv=.int .i64 (bv:Int)/\vi=.int .i64 (i:Int)/\best<=2147483647/\Aside0 (bvOf best idx bv)/\Aside0 (n7 a k i best idx)/\bv<=100/\Aside0 (Below w1.heap.size w1 wr)) (fun _ _ vi _=>(34-intOf vi).toNat)
 case atStart=>exact⟨0,2147483647,0,0,by omega,rfl,rfl,rfl,by omega,⟨fun h=>by omega⟩,H0,by omega,⟨Below.refl _ _⟩⟩
 case round=>
  obtain⟨i,best,idx,bv,hi,rfl,rfl,rfl,hbest,HBV,HG,hbv,HBr⟩:=hrel;by_cases hlt34:i<34;rotate_left
  ·have:i=34:=by omega
   subst this;have hfin:=HG.out;unfold n7 at hfin;rw [show bS.drop 34=[] from rfl,lY] at hfin
   split at hfin
   rotate_left
   ·cases hfin
   rename_i hb3
   have hb3:best<=3:=hb3;have hbvk:bv=k+7:=by
    have:=HBV.out hb3;have e:idx=k:=Option.some.inj hfin;omega
   subst hbvk;clear hfin
   go_wp2_with (go_at_call 60;refine (uA _ (k+7) (by omega)).mono ?_;rintro e w' ⟨p,rfl,hp,hv,hb⟩)
   have HV:=Mw hv;clear hv
   go_ret2
   refine⟨p,rfl,?_,HV.out,?_⟩
   ·have:=HB.out.size;have:=HBr.out.size;omega
   exact HB.out.trans ((HBr.out.mono HB.out.size).trans (hb.mono (Mz HB.out.size HBr.out.size)))
  have c0:wr.cell? (ad.add i)=some (.int .i64 ((bS.getD i 0:Nat):Int)):=by
   have:=HC.out i hlt34;exact g8 HBr.out this
  obtain⟨t,ht⟩:∃ t,bS.getD i 0=t:=⟨_,rfl⟩;have hlim:t<262144:=by rw [<- ht];exact Aj ⟨i,hlt34⟩
  have hst:=Kj hlt34 HG.out;rw [ht] at c0 hst;clear ht;rcases hst with⟨e1,e2⟩ | ⟨e1,e2⟩
  ·subst e1;have HE:=Mw e2;clear e2
   go_wp2_with (go_at_call 60;refine (uA _ (i+7) (by omega)).mono ?_;rintro e w' ⟨p,rfl,hp,hv,hb⟩)
   have HV:=Mw hv;clear hv
   go_ret2
   have hik:=HE.out;subst hik;refine⟨p,rfl,?_,HV.out,?_⟩
   ·have:=HB.out.size;have:=HBr.out.size;omega
   exact HB.out.trans ((HBr.out.mono HB.out.size).trans (hb.mono (Mz HB.out.size HBr.out.size)))
  have ht2:((t:Int)==(a:Int))=false:=by simpa using (fun h:(t:Int)=(a:Int)=>e1 (by omega))
  have HE:=Mw e2;have hdl:hd a t<=64:=nY 64 _;obtain⟨q,hq⟩:∃ q,hd a t=q:=⟨_,rfl⟩;have hcall:=F.mR.calls a t _ wr (uz a t (by omega) (by omega));rw [hq] at hcall hdl;have HQ:=Mw hq;clear e1 e2 hq;by_cases hless:q<best;rotate_left
  ·go_wp2_with (go_at_call 128;refine hcall.mono ?_;rintro e w' ⟨rfl,hdr⟩;obtain⟨nd,rfl⟩:=hdr.out)
   go_roundw
   case rel=>exact⟨i+1,best,idx,bv,by omega,rfl,rfl,by go_num,by omega,HBV,⟨by have:=HE.out;unfold eb at this;rw [HQ.out,if_neg hless] at this;exact this⟩,hbv,⟨au HBr.out _⟩⟩
   case measure=>simp [intOf];omega
  go_wp2_with (go_at_call 128;refine hcall.mono ?_;rintro e w' ⟨rfl,hdr⟩;obtain⟨nd,rfl⟩:=hdr.out)
  go_roundw
  case rel=>exact⟨i+1,q,i,i+7,by omega,rfl,by go_num,by go_num,by omega,⟨fun _=>rfl⟩,⟨by have:=HE.out;unfold eb at this;rw [HQ.out,if_pos hless] at this;exact this⟩,by omega,⟨au HBr.out _⟩⟩
  case measure=>simp [intOf];omega
structure aC (w w':World)(g:Nat):Prop where
 os:w'.os=w.os
 tape:w'.tape=w.tape
 output:w'.output=w.output
 size:w.heap.size<=w'.heap.size
 block:∀ k,k<w.heap.size->k≠g->w'.heap[k]? = w.heap[k]?
theorem aC.refl (w:World)(g:Nat):aC w w g:=⟨rfl,rfl,rfl,Mx _,fun _ _ _=>rfl⟩
theorem aC.trans {a b c:World}{g:Nat}(h:aC a b g)(k:aC b c g):aC a c g :=
 ⟨k.os.trans h.os,k.tape.trans h.tape,k.output.trans h.output,Mz h.size k.size,fun i hi hn=>(k.block i (MD hi h.size) hn).trans (h.block i hi hn)⟩
theorem aC.of_below {w w':World}(h:Below w.heap.size w w')(g:Nat):aC w w' g:=⟨h.os,h.tape,h.output,h.size,fun k hk _=>h.block k hk⟩
theorem aC.of_turn {w w':World}{g:Nat}(h:af w w' g):aC w w' g:=⟨h.os,h.tape,h.output,by rw [h.size];exact Mx _,fun k _ hn=>h.block k hn⟩
theorem aC.set (w:World)(g i:Nat)(u:Value):aC w (w.setCell ⟨g,i,none⟩ u) g:=aC.of_turn (af.set w g i u)
theorem aC.blk {w w':World}{g b:Nat}{t:TypeId}{cs:Array Value}(h:aC w w' g)(hb:Blk w b t cs)(hne:b≠g):Blk w' b t cs:=(h.block b hb.lt hne).trans hb
theorem aC.grid {w w':World}{p g b wd ht:Nat}{f:Nat->Nat->Bool}(h:aC w w' p)(G:aQ w g b wd ht f)(h1:g≠p)(h2:b≠p):aQ w' g b wd ht f :=
 G.keep (h.block g G.lt.1 h1) (h.block b G.lt.2 h2)
theorem aC.below {w0 w w':World}{g B:Nat}(h:aC w w' g)(hb:Below B w0 w)(hg:B<=g)(hB:B<=w.heap.size):Below B w0 w' :=
 ⟨h.os.trans hb.os,h.tape.trans hb.tape,h.output.trans hb.output,Mz hb.size h.size,fun k hk=>(h.block k (by omega) (by omega)).trans (hb.block k hk)⟩
theorem bT.upd {w w':World}{p pv:Nat}{n:Int}{v:eo}{cs:Array Value}(h:bT w pv n v)(hu:aC w w' p)(hp:Blk w p 144 cs):bT w' pv n v:=by
 obtain⟨gc,ge,g,h1,h2,h3,h4⟩:=h;exact⟨gc,ge,g,hu.blk h1 (bd h1 hp (by decide)),hu.blk h2 (bd h2 hp (by decide)),hu.blk h3 (bd h3 hp (by decide)),fun l hl=>hu.blk (h4 l hl) (bd (h4 l hl) hp (by decide))⟩
def ig (w:World)(p g v:Nat)(fm:Value):Prop:=∃ x1,Blk w p 144 #[.pointer (some ⟨g,0,none⟩),x1,fm,.bool false]/\(x1=.pointer none\/∃ pv,x1=.pointer (some ⟨pv,0,none⟩)/\bT w pv (v:Int) (dw v))
def gG (f:Nat->Nat->Bool)(n:Nat):Nat->Nat
 | 0=>0
 | k+1=>2*gG f n k+(f (n-9-k%3) (5-k/3)).toNat
theorem Kl (f:Nat->Nat->Bool)(n:Nat):∀ k,gG f n k<2 ^ k:=by
 intro k
 induction k with
 | zero=>exact Nat.one_pos
 | succ k ih=>
  rw [gG,Nat.pow_succ];have:(f (n-9-k%3) (5-k/3)).toNat<=1:=Bool.toNat_le _;omega
theorem Ak (f:Nat->Nat->Bool)(n k:Nat)(h:k<=18):gG f n k<262144:=MD (Kl f n k) (MC (n:=2) (by omega) h)
def r7 (w:World)(p g v:Nat)(fm:Value)(e:Ending)(w':World):Prop:=∃ pv,e=.returned (.tuple #[.pointer (some ⟨pv,0,none⟩),.nilIface])/\bT w' pv (v:Int) (dw v)/\ig w' p g v fm/\aC w w' p
theorem Al (w:World)(p n:Nat)(v:eo)(h:bT w p (n:Int) v)(hn:1<=n/\n<=40):Calls Tryz.prog 86 #[.pointer (some ⟨p,0,none⟩)] w fun e w'=>e=.returned (.int .i64 ((17+4*n:Nat):Int))/\w=w':=by
 obtain⟨gc,ge,g,h1,_⟩:=h;refine (EF w p (n:Int) (by omega) (h1.cell 0)).mono ?_;rintro e w' ⟨rfl,h⟩;exact⟨AL (by omega),h⟩
theorem Km (w:World)(p g b v:Nat)(fm:Value)(f:Nat->Nat->Bool)(hP:Blk w p 144 #[.pointer (some ⟨g,0,none⟩),.pointer none,fm,.bool false])(G:aQ w g b (17+4*v) (17+4*v) f)(hv:1<=v/\v<=6) :
  Calls Tryz.prog 39 #[.pointer (some ⟨p,0,none⟩)] w (r7 w p g v fm):=by
 have k:=py w g b _ _ f G;have c0:w.cell? ⟨p,0,none⟩=some (.pointer (some ⟨g,0,none⟩)):=hP.cell 0;have c1:w.cell? ⟨p,1,none⟩=some (.pointer none):=hP.cell 1;obtain⟨hv1,hv2⟩:=hv;obtain⟨n,hn⟩:∃ n,17+4*v=n:=⟨_,rfl⟩;rw [hn] at k;have hq:((n:Int)-17)/4=(v:Int):=by omega
 have hb1:17<=n:=by omega
 have hb2:n<=41:=by omega
 have HP:=Mw hP;have HQ:=Mw hq;clear hP hn G
 go_enter Tryz.func39,Tryz.ntmps39
 go_wp2_with (first | (go_at_call 83;refine k.mono ?_;rintro e w' ⟨rfl,rfl⟩) | (go_at_call 60;refine (uA _ v (by omega)).mono ?_;rintro e w' ⟨pv,rfl,hp,hv,hb⟩))
 have HV:=Mw hv;clear hv
 go_ret2
 exact⟨pv,rfl,HV.out,⟨_,HP.out.below hb HP.out.lt,.inl rfl⟩,aC.of_below hb p⟩
theorem Kn (w:World)(p g v pv:Nat)(fm:Value)(hP:Blk w p 144 #[.pointer (some ⟨g,0,none⟩),.pointer (some ⟨pv,0,none⟩),fm,.bool false])(hV:bT w pv (v:Int) (dw v)) :
  Calls Tryz.prog 39 #[.pointer (some ⟨p,0,none⟩)] w (r7 w p g v fm):=by
 have c1:w.cell? ⟨p,1,none⟩=some (.pointer (some ⟨pv,0,none⟩)):=hP.cell 1;have HP:=Mw hP;have HV:=Mw hV;clear hP hV
 go_enter Tryz.func39,Tryz.ntmps39
 go_wp2
 go_ret2
 exact⟨pv,rfl,HV.out,⟨_,HP.out,.inr ⟨pv,rfl,HV.out⟩⟩,aC.refl _ _⟩
set_option maxHeartbeats 2000000 in
theorem Ko (w:World)(p g b v:Nat)(fm:Value)(f:Nat->Nat->Bool)(hP:Blk w p 144 #[.pointer (some ⟨g,0,none⟩),.pointer none,fm,.bool false])(G:aQ w g b (17+4*v) (17+4*v) f)(hv:7<=v/\v<=40)
  (hd:hd (gG f (17+4*v) 18) (bS.getD (v-7) 0)<=3) :
  Calls Tryz.prog 39 #[.pointer (some ⟨p,0,none⟩)] w (r7 w p g v fm):=by
 have k:=py w g b _ _ f G;have c0:w.cell? ⟨p,0,none⟩=some (.pointer (some ⟨g,0,none⟩)):=hP.cell 0;have c1:w.cell? ⟨p,1,none⟩=some (.pointer none):=hP.cell 1;obtain⟨hv1,hv2⟩:=hv;obtain⟨n,hn⟩:∃ n,17+4*v=n:=⟨_,rfl⟩;rw [hn] at k G hd;have hq:6<((n:Int)-17)/4:=by omega
 have hb1:45<=n:=by omega
 have hb2:n<=177:=by omega
 have HP:=Mw hP;have HG:=Mw G;have HN:=Mw hn;have HD:=Mw hd;clear hP hn G hd
 go_enter Tryz.func39,Tryz.ntmps39
 go_wp2_with (first | (go_at_call 83;refine k.mono ?_;rintro e w' ⟨rfl,rfl⟩))
 go_loop [6,8] (fun vb vj=>∃ m x:Nat,m<=6/\vj=.int .i64 (5-(m:Int))/\vb=.int .i64 (x:Int)/\Aside0 (x=gG f n (3*m))) (fun _ vj=>(intOf vj+1).toNat)
 case atStart=>exact⟨0,0,by omega,rfl,rfl,⟨rfl⟩⟩
 case round=>
  obtain⟨m,x,hm,rfl,rfl,HX⟩:=hrel;by_cases hlt:m<6;rotate_left
  ·have:m=6:=by omega
   subst this;have ex:x=gG f n 18:=HX.out;have hx:x<262144:=by have:=Ak f n 18 (by omega);omega
   have hdec:=Kk w x (v-7) (by omega) hx (by rw [ex];exact HD.out)
   rw [show v-7+7=v by omega] at hdec;have HEX:=Mw ex;clear ex
   go_wp2_with (first | (go_at_call 85;refine hdec.mono ?_;rintro e w' ⟨pv,rfl,hp,hV,hB⟩;have hPb:=HP.out.below hB HP.out.lt;have d1:=hPb.cell 1;have d2:=hPb.frozen 1;have HV:=Mw hV;have HBW:=Mw hB;have HPB:=Mw hPb;clear hV hB hPb) | (go_at_call 86;have hvd:=Al _ pv v (dw v) HV.out (by omega);rw [HN.out] at hvd;refine hvd.mono ?_;rintro e w' ⟨rfl,rfl⟩;clear hvd))
   go_ret2
   have hu:aC w (w'.setCell ⟨p,1,none⟩ (.pointer (some ⟨pv,0,none⟩))) p:=(aC.of_below HBW.out p).trans (aC.set _ _ _ _);have hVx:=HV.out.upd (aC.set w' p 1 (.pointer (some ⟨pv,0,none⟩))) HPB.out;refine⟨pv,rfl,hVx,⟨.pointer (some ⟨pv,0,none⟩),?_,.inr ⟨pv,rfl,hVx⟩⟩,hu⟩;exact bK HPB.out 1 _
  go_wp2
  go_loop [6,9] (fun vb vi=>∃ t y:Nat,t<=3/\vi=.int .i64 ((n:Int)-9-(t:Int))/\vb=.int .i64 (y:Int)/\Aside0 (y=gG f n (3*m+t))) (fun _ vi=>(intOf vi-(n:Int)+12).toNat)
  case atStart=>exact⟨0,x,by omega,by go_num,rfl,HX⟩
  case round=>
   obtain⟨t,y,ht,rfl,rfl,HY⟩:=hrel;by_cases hlt3:t<3;rotate_left
   ·have:t=3:=by omega
    subst this
    go_wp2
    go_round
    case rel=>exact⟨m+1,y,by omega,by go_num,rfl,by rw [show 3*(m+1)=3*m+3 by omega];exact HY⟩
    case measure=>simp [intOf];omega
   have hcb:=ma w p g b n n f (.pointer none) fm (n-9-t) (5-m) y HP.out HG.out (by omega) (by omega) (by omega) (by omega) (by have:=Ak f n (3*m+t) (by omega);have:=HY.out;omega)
   rw [show ((n-9-t:Nat):Int)=(n:Int)-9-(t:Int) by omega,show ((5-m:Nat):Int)=5-(m:Int) by omega] at hcb;have hy:2*y+(f (n-9-t) (5-m)).toNat=gG f n (3*m+(t+1)):=by
    rw [show 3*m+(t+1)=3*m+t+1 by omega,gG,<- HY.out,show (3*m+t)%3=t by omega,show (3*m+t)/3=m by omega]
   obtain⟨z,hz⟩:∃ z,2*y+(f (n-9-t) (5-m)).toNat=z:=⟨_,rfl⟩;rw [hz] at hcb hy;have HZ:=Mw hy;clear hz hy
   go_wp2_with (go_at_call 84;refine hcb.mono ?_;rintro e w' ⟨rfl,rfl⟩)
   go_round
   case rel=>exact⟨t+1,z,by omega,by go_num,rfl,HZ⟩
   case measure=>simp [intOf];omega
def cu (n:Nat):Operand:=.const (.int .u64 (n:Int))
def r8:List (Nat×Nat)->Nat->List iE
 | [],_=>[]
 | p :: L,i=>(.buildSlice 249 2 #[(0,cu p.1),(1,cu p.2)],some i,none) :: r8 L (i+1)
def Am (f:Func):Array Oper:=match f.body with
 | some (.seq _ (.seq (.region _ ops _) _))=>ops
 | _=>#[]
theorem Kp:Tryz.f156.body=some (.seq (lP Tryz.f156) (.seq (.region 1 (Am Tryz.f156) false) .ret)):=by kernel_rfl
theorem Kq:lP Tryz.f156=.region 0 (nu (lP Tryz.f156)) false/\(nu (lP Tryz.f156)).toList.map keyOf=[(.assign (.const (.slice none 0 0)),some 0,none)]:=⟨by kernel_rfl,by kernel_rfl⟩
set_option maxRecDepth 100000 in
theorem Kr:(Am Tryz.f156).toList.map keyOf=r8 bp 1++[(.buildSlice 247 32 (qT 1 32),some 33,none),(.assign (.tmp 33),some 0,none)]:=by kernel_rfl
theorem Ks (t d:Int)(W:World):(Instr.buildSlice 249 2 #[(0,.int .u64 t),(1,.int .u64 d)]).run Tryz.prog W=.ok (.slice (some ⟨W.heap.size,0,none⟩) 2 2) (W.alloc (.cells #[.int .u64 t,.int .u64 d] 150)):=by kernel_rfl
theorem Kt (t d:Nat)(A:Act):((#[(0,cu t),(1,cu d)]:Array (Nat×Operand)).map fun p=>(p.1,A.eval p.2))=#[(0,.int .u64 (t:Int)),(1,.int .u64 (d:Int))]:=by kernel_rfl
def Ku (W':World)(h:Nat)(L:List (Nat×Nat)):Prop:=∀ j,j<L.length->Blk W' (h+j) 150 #[.int .u64 ((L.getD j (0,0)).1:Int),.int .u64 ((L.getD j (0,0)).2:Int)]
theorem Kv {ops:Array Oper}{Q:Exit->Act->World->Prop}{ks:List iE}:∀ (L:List (Nat×Nat)) (i:Nat) (a:Act) (W:World),i+L.length<a.tmps.size->
  (∀ a' W',fu a a' i->(∀ j,j<L.length->a'.eval (.tmp (i+j))=.slice (some ⟨W.heap.size+j,0,none⟩) 2 2)->Ku W' W.heap.size L->Below W.heap.size W W'->WK ops Q ks a' W')->WK ops Q (r8 L i++ks) a W:=by
 intro L
 induction L with
 | nil=>intro i a W hs k;exact k a W (fu.refl a i) (fun j hj=>by cases hj) (fun j hj=>by cases hj) (Below.refl _ _)
 | cons p L ih=>
  intro i a W hs k;rw [List.length_cons] at hs;rw [r8,List.cons_append];refine nz 249 2 _ i _ (Kt p.1 p.2 a) _ (Ks p.1 p.2 W) ?_;obtain⟨W1,hW1⟩:∃ W1,W1=W.alloc (.cells #[.int .u64 (p.1:Int),.int .u64 (p.2:Int)] 150):=⟨_,rfl⟩;have hsz:W1.heap.size=W.heap.size+1:=by rw [hW1];simp
  have hb1:Below W.heap.size W W1:=by rw [hW1];exact ai (Below.refl _ _) _
  have hB:Blk W1 W.heap.size 150 #[.int .u64 (p.1:Int),.int .u64 (p.2:Int)]:=by rw [hW1];exact Blk.new _ _ _
  rw [<- hW1];refine ih (i+1) _ _ (by rw [Act.size_put];omega) fun a' W' x e r b=>?_
  rw [hsz] at e r b;have hb':Below W.heap.size W W':=hb1.trans (b.mono (by omega));refine k a' W' (((fu.refl a i).put i _ (Mx _)).trans x (by omega)) ?_ ?_ hb';rotate_left
  ·intro j hj;cases j with
   | zero=>exact hB.below b (by omega)
   | succ j=>
    have:=r j (by simpa using hj);rw [show W.heap.size+(j+1)=W.heap.size+1+j by omega];exact this
  intro j hj;cases j with
  | zero=>
   rw [Nat.add_zero,Nat.add_zero,x.same i (by omega)];exact Act.eval_put_same _ _ _ (by omega)
  | succ j=>
   have:=e j (by simpa using hj);rw [show i+(j+1)=i+1+j by omega,show W.heap.size+(j+1)=W.heap.size+1+j by omega];exact this
def uB (h:Nat):Array (Nat×Value):=((List.range 32).map fun j=>(j,Value.slice (some ⟨h+j,0,none⟩) 2 2)).toArray
def r9 (h:Nat):List Value:=(List.range 32).map fun j=>Value.slice (some ⟨h+j,0,none⟩) 2 2
set_option maxRecDepth 100000 in
theorem Kw (h:Nat)(W:World):(Instr.buildSlice 247 32 (uB h)).run Tryz.prog W=.ok (.slice (some ⟨W.heap.size,0,none⟩) 32 32) (W.alloc (.cells (r9 h).toArray 249)):=by kernel_rfl
theorem Kx (h:Nat)(a:Act)(he:∀ j,j<32->a.eval (.tmp (1+j))=.slice (some ⟨h+j,0,none⟩) 2 2):((qT 1 32).map fun p=>(p.1,a.eval p.2))=uB h:=by
 unfold qT uB;rw [List.map_toArray,List.map_map];congr 1;apply List.map_congr_left;intro j hj;rw [List.mem_range] at hj;show (j,a.eval (.tmp (1+j)))=_;rw [he j hj]
theorem Ky (w:World):Calls Tryz.prog 156 #[] w fun e w'=>∃ ad c,e=.returned (.slice (some ad) 32 c)/\32<=c/\
  (∀ i,i<32->∃ ax cx,w'.cell? (ad.add i)=some (.slice (some ax) 2 cx)/\2<=cx/\w'.cell? ax=some (.int .u64 (((bp.getD i (0,0)).1:Nat):Int))/\w'.cell? ⟨ax.block,ax.off+1,none⟩=some (.int .u64 (((bp.getD i (0,0)).2:Nat):Int)))/\Below w.heap.size w w':=by
 refine calls_of_wp Tryz.func156 Kp ?_;obtain⟨a,ha⟩:∃ a:Act,a={ tmps:=(#[]:Array Value)++Array.replicate (Tryz.f156.ntmps-(#[]:Array Value).size) undef,defers:=[] }:=⟨_,rfl⟩;have hsz:a.tmps.size=34:=by
  rw [ha];show ((#[]:Array Value)++Array.replicate (Tryz.f156.ntmps-0) undef).size=34;rw [Array.size_append,Array.size_replicate,show Tryz.f156.ntmps=34 from by kernel_rfl];rfl
 have hdf:a.defers=[]:=by rw [ha]
 rw [<- ha];obtain⟨k1,k2⟩:=Kq;refine wp_seq ?_;rw [k1];refine wp_region_list ?_;refine (?_:WK _ _ _ a w) _ k2;refine oZ _ 0 (nw ?_);show Code.wp Tryz.prog _ _ _ w;refine wp_seq (wp_region_list ?_);refine (?_:WK _ _ _ _ w) _ Kr;refine Kv bp 1 _ w (by rw [Act.size_put,hsz];decide) fun a' W' x e r b=>?_
 refine nz 247 32 _ 33 _ (Kx w.heap.size a' (fun j hj=>e j hj)) _ (Kw w.heap.size W') ?_;refine oZ _ 0 (nw ?_);show Code.wp Tryz.prog _ _ _ _;refine wp_ret ?_;have s1:a'.tmps.size=34:=by rw [x.size,Act.size_put,hsz]
 have e33:(a'.put (some 33) (.slice (some ⟨W'.heap.size,0,none⟩) 32 32)).eval (.tmp 33)=.slice (some ⟨W'.heap.size,0,none⟩) 32 32:=Act.eval_put_same _ _ _ (by omega);rw [e33];have e0:((a'.put (some 33) (.slice (some ⟨W'.heap.size,0,none⟩) 32 32)).put (some 0) (.slice (some ⟨W'.heap.size,0,none⟩) 32 32)).eval (.tmp 0)=.slice (some ⟨W'.heap.size,0,none⟩) 32 32:=Act.eval_put_same _ _ _ (by rw [Act.size_put];omega)
 have hD:((a'.put (some 33) (.slice (some ⟨W'.heap.size,0,none⟩) 32 32)).put (some 0) (.slice (some ⟨W'.heap.size,0,none⟩) 32 32)).defers=[]:=by rw [Act.defers_put',Act.defers_put',x.defers,Act.defers_put',hdf]
 obtain⟨A,hA⟩:∃ A,A=(a'.put (some 33) (.slice (some ⟨W'.heap.size,0,none⟩) 32 32)).put (some 0) (.slice (some ⟨W'.heap.size,0,none⟩) 32 32):=⟨_,rfl⟩;rw [<- hA] at e0 hD ⊢;clear hA;refine bodyPost_ret (v:=.slice (some ⟨W'.heap.size,0,none⟩) 32 32) ?_ hD ?_
 ·rw [show results Tryz.f156=results { Tryz.f156 with results:=#[.tmp 0] } from by unfold results;rw [show Tryz.f156.results=#[.tmp 0] from by kernel_rfl]]
  have:(A.tmps[0]?.getD undef)=.slice (some ⟨W'.heap.size,0,none⟩) 32 32:=by simpa [Act.eval] using e0
  simp [results,go_sem,this]
 refine⟨⟨W'.heap.size,0,none⟩,32,rfl,Mx _,?_,ai b _⟩;intro i hi;have hH:=Blk.new W' 249 (r9 w.heap.size).toArray;have hR:=(r i hi).alloc (.cells (r9 w.heap.size).toArray 249);refine⟨⟨w.heap.size+i,0,none⟩,2,?_,Mx _,hR.cell 0,hR.cell 1⟩;rw [iu,hH.cell];unfold r9;simp [List.getElem?_range hi]
theorem Kz (w:World)(c:Nat)(h:c<4):Calls Tryz.prog 169 #[.int .u64 (c:Int)] w fun e w'=>e=.returned (.tuple #[.int .i64 (c:Int),.nilIface])/\w=w':=by
 have h4:c=0\/c=1\/c=2\/c=3:=by omega
 clear h;rcases h4 with rfl | rfl | rfl | rfl
 all_goals
  go_enter Tryz.func169,Tryz.ntmps169
  go_wp2
  go_ret2
  exact⟨rfl,rfl⟩
def j7 (w:World)(q d:Nat):Prop:=Blk w q 156 #[.int .i64 ((d/8:Nat):Int),.int .u8 ((d%8:Nat):Int)]
theorem uC (w:World)(d:Nat)(h:d<32):Calls Tryz.prog 157 #[.int .u64 (d:Int)] w fun e w'=>e=.returned (.pointer (some ⟨w.heap.size,0,none⟩))/\j7 w' w.heap.size d/\Below w.heap.size w w':=by
 have h1:Go.bits .and .u64 ((d:Int)/8) 3=((d/8:Nat):Int):=by
  have:=u64_and_nat (d/8) 3 (by omega) (by omega);rw [show d/8 &&& 3=d/8%4 from MF (n:=2) _,show d/8%4=d/8 by omega] at this;rw [<- this];rfl
 have h2:Go.bits .and .u64 (d:Int) 7=((d%8:Nat):Int):=by
  have:=u64_and_nat d 7 (by omega) (by omega);rw [show d &&& 7=d%8 from MF (n:=3) _] at this;rw [<- this];rfl
 obtain⟨x,hx⟩:∃ x,d/8=x:=⟨_,rfl⟩;obtain⟨y,hy⟩:∃ y,d%8=y:=⟨_,rfl⟩;unfold j7;rw [hx] at h1;rw [hy] at h2;rw [hx,hy];have hxl:x<4:=by omega
 have hyl:y<8:=by omega
 clear hx hy
 go_enter Tryz.func157,Tryz.ntmps157
 go_wp2_with (go_at_call 169;refine (Kz _ x hxl).mono ?_;rintro e w' ⟨rfl,rfl⟩)
 go_ret
 exact⟨rfl,Blk.new _ _ _,(Below.refl _ _).alloc (Mx _) _⟩
theorem KA:∀ i:Fin 32,(bp.getD i.val (0,0)).1<65536/\(bp.getD i.val (0,0)).2<32:=by decide
def n8 (a b d i best info:Nat):Prop:=iR a b (bp.drop i) (best,info)=some d
theorem KB {a b d i best info:Nat}(hi:i<32)(h:n8 a b d i best info) :
  (((bp.getD i (0,0)).1=a\/(bp.getD i (0,0)).1=b)/\(bp.getD i (0,0)).2=d)\/
  ((¬ ((bp.getD i (0,0)).1=a\/(bp.getD i (0,0)).1=b))/\n8 a b d (i+1) (it a b (bp.getD i (0,0)).1 (bp.getD i (0,0)).2 (best,info)).1 (it a b (bp.getD i (0,0)).1 (bp.getD i (0,0)).2 (best,info)).2):=by
 have hl:i<bp.length:=hi;have hd:bp.drop i=bp.getD i (0,0) :: bp.drop (i+1):=by
  rw [MI hl,My,MB hl];rfl
 unfold n8 at h ⊢;rw [hd] at h;generalize bp.getD i (0,0)=x at h ⊢;obtain⟨t,dd⟩:=x;rw [iR] at h;by_cases hc:t=a\/t=b;rotate_left
 ·rw [if_neg hc] at h;exact .inr ⟨hc,h⟩
 rw [if_pos hc] at h;exact .inl ⟨hc,Option.some.inj h⟩
def An (w:World)(d:Nat)(e:Ending)(w':World):Prop:=∃ q,e=.returned (.pointer (some ⟨q,0,none⟩))/\w.heap.size<=q/\j7 w' q d/\Below w.heap.size w w'
set_option maxHeartbeats 2000000 in
theorem KC (w:World)(a b d:Nat)(ha:a<65536)(hb:b<65536)(hd32:d<32)(hg:iR a b bp (2147483647,0)=some d) :
  Calls Tryz.prog 130 #[.int .u64 (a:Int),.int .u64 (b:Int)] w (An w d):=by
 have H0:=Mw (show n8 a b d 0 2147483647 0 from hg);clear hg
 go_enter Tryz.func130,Tryz.ntmps130
 go_wp2_with (go_at_call 156;refine (Ky _).mono ?_;rintro e w' ⟨ad,c,rfl,hc,hcell,hb⟩)
 have HC:=Mw hcell;have HB:=Mw hb;obtain⟨w1,rfl⟩:∃ w1:World,w1=w':=⟨_,rfl⟩;clear hcell hb
 go_loopw [5,6,13] (fun vb vv vi wr=>∃ i best info:Nat,i<=32/\vb=.int .i64 (best:Int)/\vv=.int .u64 (info:Int)/\vi=.int .i64 (i:Int)/\best<=2147483647/\info<32/\Aside0 (n8 a b d i best info)/\Aside0 (Below w1.heap.size w1 wr)) (fun _ _ vi _=>(32-intOf vi).toNat)
 case atStart=>exact⟨0,2147483647,0,by omega,rfl,rfl,rfl,by omega,by omega,H0,⟨Below.refl _ _⟩⟩
 case round=>
  obtain⟨i,best,info,hi,rfl,rfl,rfl,hbest,hinfo,HG,HBr⟩:=hrel;by_cases hlt32:i<32;rotate_left
  ·have:i=32:=by omega
   subst this;have hfin:=HG.out;unfold n8 at hfin;rw [show bp.drop 32=[] from rfl,iR] at hfin
   split at hfin
   rotate_left
   ·cases hfin
   rename_i hb3
   have hb3:best<=3:=hb3;have e:info=d:=Option.some.inj hfin;subst e;clear hfin
   go_wp2_with (go_at_call 157;refine (uC _ info hinfo).mono ?_;rintro e w' ⟨rfl,hf,hbf⟩)
   have HF:=Mw hf;clear hf
   go_ret
   refine⟨_,rfl,?_,HF.out,?_⟩
   ·have:=HB.out.size;have:=HBr.out.size;omega
   exact HB.out.trans ((HBr.out.mono HB.out.size).trans (hbf.mono (Mz HB.out.size HBr.out.size)))
  obtain⟨ax,cx,q0,hcx,q1,q2⟩:=HC.out i hlt32;have hlim:=KA ⟨i,hlt32⟩;have hst:=KB hlt32 HG.out;simp only at hlim;obtain⟨t,ht⟩:∃ t,(bp.getD i (0,0)).1=t:=⟨_,rfl⟩;obtain⟨dd,hdd⟩:∃ dd,(bp.getD i (0,0)).2=dd:=⟨_,rfl⟩;rw [ht,hdd] at hst hlim;rw [ht] at q1;rw [hdd] at q2;obtain⟨hl1,hl2⟩:=hlim;replace q0:=g8 HBr.out q0;replace q1:=g8 HBr.out q1;replace q2:=g8 HBr.out q2;clear ht hdd;rcases hst with⟨e1,e2⟩ | ⟨e1,e2⟩
  ·subst e2;rcases Decidable.em (t=a) with e3 | e3
   ·subst e3;clear e1
    go_wp2_with (go_at_call 157;refine (uC _ dd hl2).mono ?_;rintro e w' ⟨rfl,hf,hbf⟩)
    have HF:=Mw hf;clear hf
    go_ret
    refine⟨_,rfl,?_,HF.out,?_⟩
    ·have:=HB.out.size;have:=HBr.out.size;omega
    exact HB.out.trans ((HBr.out.mono HB.out.size).trans (hbf.mono (Mz HB.out.size HBr.out.size)))
   have e4:t=b:=by rcases e1 with e | e;exact absurd e e3;exact e
   subst e4;have hne:((t:Int)==(a:Int))=false:=by simpa using (fun h:(t:Int)=(a:Int)=>e3 (by omega))
   clear e1 e3
   go_wp2_with (go_at_call 157;refine (uC _ dd hl2).mono ?_;rintro e w' ⟨rfl,hf,hbf⟩)
   have HF:=Mw hf;clear hf
   go_ret
   refine⟨_,rfl,?_,HF.out,?_⟩
   ·have:=HB.out.size;have:=HBr.out.size;omega
   exact HB.out.trans ((HBr.out.mono HB.out.size).trans (hbf.mono (Mz HB.out.size HBr.out.size)))
  have hta:t≠a:=fun h=>e1 (.inl h)
  have htb:t≠b:=fun h=>e1 (.inr h)
  have hne1:((t:Int)==(a:Int))=false:=by simpa using (fun h:(t:Int)=(a:Int)=>hta (by omega))
  have hne2:((t:Int)==(b:Int))=false:=by simpa using (fun h:(t:Int)=(b:Int)=>htb (by omega))
  have hdl1:hd a t<=64:=nY 64 _;have hdl2:hd b t<=64:=nY 64 _;have hcall1:=F.mR.calls a t _ wr (uz a t (by omega) (by omega));have hcall2:=fun W=>F.mR.calls b t _ W (uz b t (by omega) (by omega))
  obtain⟨x,hx⟩:∃ x,hd a t=x:=⟨_,rfl⟩;obtain⟨y,hy⟩:∃ y,hd b t=y:=⟨_,rfl⟩;have HE:=Mw e2;rw [hx] at hcall1 hdl1;simp only [hy] at hcall2;rw [hy] at hdl2;have HX:=Mw hx;have HY:=Mw hy;have HC2:=Mw hcall2;clear e1 e2 hx hy hta htb hcall2;rcases Decidable.em (a=b) with hab | hab
  ·subst hab;by_cases hl:x<best
   ·go_wp2_with (go_at_call 128;refine hcall1.mono ?_;rintro e w' ⟨rfl,hdr⟩;obtain⟨nd,rfl⟩:=hdr.out)
    go_roundw
    case rel=>exact⟨i+1,x,dd,by omega,rfl,by go_num,by go_num,by omega,hl2,⟨by have:=HE.out;unfold it eb at this;rw [if_pos rfl,HX.out,if_pos hl] at this;exact this⟩,⟨au HBr.out _⟩⟩
    case measure=>simp [intOf];omega
   go_wp2_with (go_at_call 128;refine hcall1.mono ?_;rintro e w' ⟨rfl,hdr⟩;obtain⟨nd,rfl⟩:=hdr.out)
   go_roundw
   case rel=>exact⟨i+1,best,info,by omega,rfl,by go_num,by go_num,by omega,hinfo,⟨by have:=HE.out;unfold it eb at this;rw [if_pos rfl,HX.out,if_neg hl] at this;exact this⟩,⟨au HBr.out _⟩⟩
   case measure=>simp [intOf];omega
  have hne3:((a:Int)==(b:Int))=false:=by simpa using (fun h:(a:Int)=(b:Int)=>hab (by omega))
  have hne4:((a:Int) != (b:Int))=true:=by rw [bne,hne3];rfl
  have HAB:=Mw hab;clear hab;have hstep:∀ s:Nat×Nat,it a b t dd s=eb b t dd (eb a t dd s):=fun s=>if_neg HAB.out
  by_cases hl:x<best
  ·by_cases hk:y<x
   ·have HS:=Mw (show it a b t dd (best,info)=(y,dd) by rw [hstep];unfold eb;rw [HX.out,HY.out,if_pos (show x<(best,info).1 from hl),if_pos (show y<(x,dd).1 from hk)])
    clear hstep
    go_wp2_with (first | (go_at_call_of 128 (a:Int);refine hcall1.mono ?_;rintro e w' ⟨rfl,hdr⟩;obtain⟨nd,rfl⟩:=hdr.out) | (go_at_call 128;refine (HC2.out _).mono ?_;rintro e w' ⟨rfl,hdr⟩;obtain⟨nd2,rfl⟩:=hdr.out))
    go_roundw
    case rel=>exact⟨i+1,y,dd,by omega,rfl,by go_num,by go_num,by omega,hl2,⟨by have:=HE.out;rw [HS.out] at this;exact this⟩,⟨by repeat (first | exact HBr.out | apply au)⟩⟩
    case measure=>simp [intOf];omega
   have HS:=Mw (show it a b t dd (best,info)=(x,dd) by rw [hstep];unfold eb;rw [HX.out,HY.out,if_pos (show x<(best,info).1 from hl),if_neg (show ¬ y<(x,dd).1 from hk)])
   clear hstep
   go_wp2_with (first | (go_at_call_of 128 (a:Int);refine hcall1.mono ?_;rintro e w' ⟨rfl,hdr⟩;obtain⟨nd,rfl⟩:=hdr.out) | (go_at_call 128;refine (HC2.out _).mono ?_;rintro e w' ⟨rfl,hdr⟩;obtain⟨nd2,rfl⟩:=hdr.out))
   go_roundw
   case rel=>exact⟨i+1,x,dd,by omega,rfl,by go_num,by go_num,by omega,hl2,⟨by have:=HE.out;rw [HS.out] at this;exact this⟩,⟨by repeat (first | exact HBr.out | apply au)⟩⟩
   case measure=>simp [intOf];omega
  by_cases hk:y<best
  ·have HS:=Mw (show it a b t dd (best,info)=(y,dd) by rw [hstep];unfold eb;rw [HX.out,HY.out,if_neg (show ¬ x<(best,info).1 from hl),if_pos (show y<(best,info).1 from hk)])
   clear hstep
   go_wp2_with (first | (go_at_call_of 128 (a:Int);refine hcall1.mono ?_;rintro e w' ⟨rfl,hdr⟩;obtain⟨nd,rfl⟩:=hdr.out) | (go_at_call 128;refine (HC2.out _).mono ?_;rintro e w' ⟨rfl,hdr⟩;obtain⟨nd2,rfl⟩:=hdr.out))
   go_roundw
   case rel=>exact⟨i+1,y,dd,by omega,rfl,by go_num,by go_num,by omega,hl2,⟨by have:=HE.out;rw [HS.out] at this;exact this⟩,⟨by repeat (first | exact HBr.out | apply au)⟩⟩
   case measure=>simp [intOf];omega
  have HS:=Mw (show it a b t dd (best,info)=(best,info) by rw [hstep];unfold eb;rw [HX.out,HY.out,if_neg (show ¬ x<(best,info).1 from hl),if_neg (show ¬ y<(best,info).1 from hk)])
  clear hstep
  go_wp2_with (first | (go_at_call_of 128 (a:Int);refine hcall1.mono ?_;rintro e w' ⟨rfl,hdr⟩;obtain⟨nd,rfl⟩:=hdr.out) | (go_at_call 128;refine (HC2.out _).mono ?_;rintro e w' ⟨rfl,hdr⟩;obtain⟨nd2,rfl⟩:=hdr.out))
  go_roundw
  case rel=>exact⟨i+1,best,info,by omega,rfl,by go_num,by go_num,by omega,hinfo,⟨by have:=HE.out;rw [HS.out] at this;exact this⟩,⟨by repeat (first | exact HBr.out | apply au)⟩⟩
  case measure=>simp [intOf];omega
theorem KD (w:World)(a b d:Nat)(ha:a<65536)(hb:b<65536)(hd:d<32)(hg:iR a b bp (2147483647,0)=some d) :
  Calls Tryz.prog 88 #[.int .u64 (a:Int),.int .u64 (b:Int)] w (An w d):=by
 have k:=KC w a b d ha hb hd hg;clear hg
 go_enter Tryz.func88,Tryz.ntmps88
 go_wp2_with (go_at_call 130;refine k.mono ?_;rintro e w' ⟨q,rfl,hq,hf,hB⟩)
 have HF:=Mw hf;clear hf
 go_ret
 exact⟨q,rfl,hq,HF.out,hB⟩
def aJ (g:Nat->Bool):Nat->Nat
 | 0=>0
 | k+1=>2*aJ g k+(g k).toNat
theorem Ap (g:Nat->Bool):∀ k,aJ g k<2 ^ k:=by
 intro k
 induction k with
 | zero=>exact Nat.one_pos
 | succ k ih=>
  rw [aJ,Nat.pow_succ];have:(g k).toNat<=1:=Bool.toNat_le _;omega
def cW (f:Nat->Nat->Bool)(k:Nat):Bool:=if k<6 then f k 8 else if k=6 then f 7 8 else if k=7 then f 8 8 else if k=8 then f 8 7 else f 8 (14-k)
def ew (f:Nat->Nat->Bool)(n k:Nat):Bool:=if k<7 then f 8 (n-1-k) else f (n-15+k) 8
theorem lZ (g:Nat->Bool)(k:Nat)(h:k<=15):aJ g k<32768:=MD (Ap g k) (MC (n:=2) (by omega) h)
def Aq (w:World)(p g v d:Nat)(e:Ending)(w':World):Prop:=∃ q,e=.returned (.tuple #[.pointer (some ⟨q,0,none⟩),.nilIface])/\j7 w' q d/\ig w' p g v (.pointer (some ⟨q,0,none⟩))/\aC w w' p
theorem KF (w:World)(p g v q d:Nat)(hP:ig w p g v (.pointer (some ⟨q,0,none⟩)))(hF:j7 w q d) :
  Calls Tryz.prog 40 #[.pointer (some ⟨p,0,none⟩)] w (Aq w p g v d):=by
 obtain⟨x1,hB,hx⟩:=hP;have c1:w.cell? ⟨p,2,none⟩=some (.pointer (some ⟨q,0,none⟩)):=hB.cell 2;have HB:=Mw hB;have HX:=Mw hx;have HF:=Mw hF;clear hB hx hF
 go_enter Tryz.func40,Tryz.ntmps40
 go_wp2
 go_ret2
 exact⟨q,rfl,HF.out,⟨x1,HB.out,HX.out⟩,aC.refl _ _⟩
set_option maxHeartbeats 4000000 in
theorem KH (w:World)(p g b v d:Nat)(f:Nat->Nat->Bool)(hP:ig w p g v (.pointer none))(G:aQ w g b (17+4*v) (17+4*v) f)(hv:1<=v/\v<=40)(hd:d<32)
  (hg:iR (aJ (cW f) 15) (aJ (ew f (17+4*v)) 15) bp (2147483647,0)=some d) :
  Calls Tryz.prog 40 #[.pointer (some ⟨p,0,none⟩)] w (Aq w p g v d):=by
 obtain⟨x1,hB,hx⟩:=hP;have k:=py w g b _ _ f G;have c0:w.cell? ⟨p,0,none⟩=some (.pointer (some ⟨g,0,none⟩)):=hB.cell 0;have c2:w.cell? ⟨p,2,none⟩=some (.pointer none):=hB.cell 2;obtain⟨n,hn⟩:∃ n,17+4*v=n:=⟨_,rfl⟩;rw [hn] at k G hg;have hb1:21<=n:=by omega
 have hb2:n<=177:=by omega
 have HB:=Mw hB;have HX:=Mw hx;have HG:=Mw G;have HD:=Mw hg;clear hB hx G hg hn hv
 go_enter Tryz.func40,Tryz.ntmps40
 go_wp2
 go_loop [4,5] (fun va vi=>∃ i x:Nat,i<=6/\vi=.int .i64 (i:Int)/\va=.int .i64 (x:Int)/\Aside0 (x=aJ (cW f) i)) (fun _ vi=>(6-intOf vi).toNat)
 case atStart=>exact⟨0,0,by omega,rfl,rfl,⟨rfl⟩⟩
 case round=>
  obtain⟨i,x,hi,rfl,rfl,HX1⟩:=hrel;have hxl:x<32768:=by have:=lZ (cW f) i (by omega);have:=HX1.out;omega
  by_cases hlt:i<6
  ·have hcb:=ma w p g b n n f x1 (.pointer none) i 8 x HB.out HG.out (by omega) (by omega) (by omega) (by omega) (by omega);have hy:2*x+(f i 8).toNat=aJ (cW f) (i+1):=by
    rw [aJ,<- HX1.out,show cW f i=f i 8 from by unfold cW;rw [if_pos hlt]]
   obtain⟨z,hz⟩:∃ z,2*x+(f i 8).toNat=z:=⟨_,rfl⟩;rw [hz] at hcb hy;have HZ:=Mw hy;clear hz hy
   go_wp2_with (go_at_call 84;refine hcb.mono ?_;rintro e w' ⟨rfl,rfl⟩)
   go_round
   case rel=>exact⟨i+1,z,by omega,by go_num,rfl,HZ⟩
   case measure=>simp [intOf];omega
  have:i=6:=by omega
  subst this;obtain⟨x7,h7⟩:∃ z,2*x+(f 7 8).toNat=z:=⟨_,rfl⟩;have e7:x7=aJ (cW f) 7:=by rw [aJ,<- HX1.out,<- h7];rfl
  have l7:=lZ (cW f) 7 (by omega);rw [<- e7] at l7;obtain⟨x8,h8⟩:∃ z,2*x7+(f 8 8).toNat=z:=⟨_,rfl⟩;have e8:x8=aJ (cW f) 8:=by rw [aJ,<- e7,<- h8];rfl
  have l8:=lZ (cW f) 8 (by omega);rw [<- e8] at l8;obtain⟨x9,h9⟩:∃ z,2*x8+(f 8 7).toNat=z:=⟨_,rfl⟩;have e9:x9=aJ (cW f) 9:=by rw [aJ,<- e8,<- h9];rfl
  have l9:=lZ (cW f) 9 (by omega);rw [<- e9] at l9;have k7:=ma w p g b n n f x1 (.pointer none) 7 8 x HB.out HG.out (by omega) (by omega) (by omega) (by omega) (by omega);have k8:=ma w p g b n n f x1 (.pointer none) 8 8 x7 HB.out HG.out (by omega) (by omega) (by omega) (by omega) (by omega);have k9:=ma w p g b n n f x1 (.pointer none) 8 7 x8 HB.out HG.out (by omega) (by omega) (by omega) (by omega) (by omega);rw [h7] at k7;rw [h8] at k8;rw [h9] at k9;have HE:=Mw e9;clear e7 e8 e9 h7 h8 h9
  go_wp2_with (first | (go_at_call_of 84 (x:Int);refine k7.mono ?_;rintro e w' ⟨rfl,rfl⟩) | (go_at_call_of 84 (x7:Int);refine k8.mono ?_;rintro e w' ⟨rfl,rfl⟩) | (go_at_call_of 84 (x8:Int);refine k9.mono ?_;rintro e w' ⟨rfl,rfl⟩))
  clear k7 k8 k9
  go_loop [4,6] (fun va vj=>∃ m y:Nat,m<=6/\vj=.int .i64 (5-(m:Int))/\va=.int .i64 (y:Int)/\Aside0 (y=aJ (cW f) (9+m))) (fun _ vj=>(intOf vj+1).toNat)
  case atStart=>exact⟨0,x9,by omega,rfl,rfl,HE⟩
  case round=>
   obtain⟨m,y,hm,rfl,rfl,HY⟩:=hrel;have hyl:y<32768:=by have:=lZ (cW f) (9+m) (by omega);have:=HY.out;omega
   by_cases hlt6:m<6
   ·have hcb:=ma w p g b n n f x1 (.pointer none) 8 (5-m) y HB.out HG.out (by omega) (by omega) (by omega) (by omega) (by omega);rw [show ((5-m:Nat):Int)=5-(m:Int) by omega] at hcb;have hy:2*y+(f 8 (5-m)).toNat=aJ (cW f) (9+(m+1)):=by
     rw [show 9+(m+1)=9+m+1 by omega,aJ,<- HY.out,show cW f (9+m)=f 8 (5-m) from by unfold cW;rw [if_neg (by omega),if_neg (by omega),if_neg (by omega),if_neg (by omega),show 14-(9+m)=5-m by omega]]
    obtain⟨z,hz⟩:∃ z,2*y+(f 8 (5-m)).toNat=z:=⟨_,rfl⟩;rw [hz] at hcb hy;have HZ:=Mw hy;clear hz hy
    go_wp2_with (go_at_call 84;refine hcb.mono ?_;rintro e w' ⟨rfl,rfl⟩)
    go_round
    case rel=>exact⟨m+1,z,by omega,by go_num,rfl,HZ⟩
    case measure=>simp [intOf];omega
   have:m=6:=by omega
   subst this;have HA:=Mw (show y=aJ (cW f) 15 from HY.out);clear hyl;have hyl:y<32768:=by have:=lZ (cW f) 15 (by omega);have:=HA.out;omega
   go_wp2_with (go_at_call 83;refine k.mono ?_;rintro e w' ⟨rfl,rfl⟩)
   go_loop [8,10] (fun va vj=>∃ t s:Nat,t<=7/\vj=.int .i64 ((n:Int)-1-(t:Int))/\va=.int .i64 (s:Int)/\Aside0 (s=aJ (ew f n) t)) (fun _ vj=>(intOf vj-(n:Int)+8).toNat)
   case atStart=>exact⟨0,0,by omega,by go_num,rfl,⟨rfl⟩⟩
   case round=>
    obtain⟨t,s,ht,rfl,rfl,HS⟩:=hrel;have hsl:s<32768:=by have:=lZ (ew f n) t (by omega);have:=HS.out;omega
    by_cases hlt7:t<7
    ·have hcb:=ma w p g b n n f x1 (.pointer none) 8 (n-1-t) s HB.out HG.out (by omega) (by omega) (by omega) (by omega) (by omega);rw [show ((n-1-t:Nat):Int)=(n:Int)-1-(t:Int) by omega] at hcb;have hy:2*s+(f 8 (n-1-t)).toNat=aJ (ew f n) (t+1):=by
      rw [aJ,<- HS.out,show ew f n t=f 8 (n-1-t) from by unfold ew;rw [if_pos hlt7]]
     obtain⟨z,hz⟩:∃ z,2*s+(f 8 (n-1-t)).toNat=z:=⟨_,rfl⟩;rw [hz] at hcb hy;have HZ:=Mw hy;clear hz hy
     go_wp2_with (go_at_call 84;refine hcb.mono ?_;rintro e w' ⟨rfl,rfl⟩)
     go_round
     case rel=>exact⟨t+1,z,by omega,by go_num,rfl,HZ⟩
     case measure=>simp [intOf];omega
    have:t=7:=by omega
    subst this
    go_wp2
    go_loop [8,11] (fun va vi=>∃ t s:Nat,t<=8/\vi=.int .i64 ((n:Int)-8+(t:Int))/\va=.int .i64 (s:Int)/\Aside0 (s=aJ (ew f n) (7+t))) (fun _ vi=>((n:Int)-intOf vi).toNat)
    case atStart=>exact⟨0,s,by omega,by go_num,rfl,HS⟩
    case round=>
     obtain⟨t,s,ht,rfl,rfl,HS⟩:=hrel;have hsl:s<32768:=by have:=lZ (ew f n) (7+t) (by omega);have:=HS.out;omega
     by_cases hlt8:t<8
     ·have hcb:=ma w p g b n n f x1 (.pointer none) (n-8+t) 8 s HB.out HG.out (by omega) (by omega) (by omega) (by omega) (by omega);rw [show ((n-8+t:Nat):Int)=(n:Int)-8+(t:Int) by omega] at hcb;have hy:2*s+(f (n-8+t) 8).toNat=aJ (ew f n) (7+(t+1)):=by
       rw [show 7+(t+1)=7+t+1 by omega,aJ,<- HS.out,show ew f n (7+t)=f (n-8+t) 8 from by unfold ew;rw [if_neg (by omega),show n-15+(7+t)=n-8+t by omega]]
      obtain⟨z,hz⟩:∃ z,2*s+(f (n-8+t) 8).toNat=z:=⟨_,rfl⟩;rw [hz] at hcb hy;have HZ:=Mw hy;clear hz hy
      go_wp2_with (go_at_call 84;refine hcb.mono ?_;rintro e w' ⟨rfl,rfl⟩)
      go_round
      case rel=>exact⟨t+1,z,by omega,by go_num,rfl,HZ⟩
      case measure=>simp [intOf];omega
     have:t=8:=by omega
     subst this;have HA2:=Mw (show s=aJ (ew f n) 15 from HS.out);have hdec:=KD w y s d (by omega) (by omega) hd (by rw [HA.out,HA2.out];exact HD.out)
     go_wp2_with (go_at_call 88;refine hdec.mono ?_;rintro e w' ⟨q,rfl,hq,hF,hBw⟩;have hPb:=HB.out.below hBw HB.out.lt;have d0:=hPb.cell 0;have d2:=hPb.cell 2;have d3:=hPb.frozen 2;have HF:=Mw hF;have HBW:=Mw hBw;have HPB:=Mw hPb;clear hF hBw hPb)
     go_ret2
     have hu:aC w (w'.setCell ⟨p,2,none⟩ (.pointer (some ⟨q,0,none⟩))) p:=(aC.of_below HBW.out p).trans (aC.set _ _ _ _);refine⟨q,rfl,(aC.set w' p 2 (.pointer (some ⟨q,0,none⟩))).blk HF.out (bd HF.out HPB.out (by decide)),⟨x1,bK HPB.out 2 _,?_⟩,hu⟩;rcases HX.out with h | ⟨pv,h,hV⟩
     ·exact .inl h
     exact .inr ⟨pv,h,(hV.upd (aC.of_below HBW.out p) HB.out).upd (aC.set w' p 2 (.pointer (some ⟨q,0,none⟩))) HPB.out⟩
def ak (xs:List Nat):List Int:=xs.map fun (x:Nat)=>(x:Int)
theorem ey (xs:List Nat):(ak xs).length=xs.length:=by simp [ak]
theorem Au (xs:List Nat)(i:Nat):(ak xs).getD i 0=((xs.getD i 0:Nat):Int):=by
 unfold ak;rw [My,My,List.getElem?_map];cases xs[i]?<;>rfl
def bJ (xs:List Nat):List Nat:=match xs.dropWhile (·==0) with | []=>[0] | y :: ys=>y :: ys
theorem uD {xs:List Nat}(h:xs.length=1\/xs.getD 0 0≠0)(h0:xs≠[]):bJ xs=xs:=by
 unfold bJ;cases xs with
 | nil=>exact absurd rfl h0
 | cons x xs=>
  by_cases hx:x=0;rotate_left
  ·rw [MJ,if_neg (by simpa using hx)]
  subst hx;rcases h with h | h
  rotate_left
  ·exact absurd rfl h
  have:xs=[]:=by simpa using h
  subst this;rfl
theorem Ax:∀ (xs:List Nat) (k:Nat),k<=xs.length->(∀ i,i<k->xs.getD i 0=0)->xs.dropWhile (·==0)=(xs.drop k).dropWhile (·==0):=by
 intro xs
 induction xs with
 | nil=>intro k hk _;simp at hk;subst hk;rfl
 | cons x xs ih=>
  intro k hk h;cases k with
  | zero=>rfl
  | succ k=>
   have hx:x=0:=h 0 (by omega);subst hx;rw [MJ,if_pos (by rfl),List.drop_succ_cons];exact ih k (by simpa using hk) (fun i hi=>by have:=h (i+1) (by omega);simpa using this)
theorem KI {xs:List Nat}{k:Nat}(hk:k<xs.length)(h:∀ i,i<k->xs.getD i 0=0)(hx:xs.getD k 0≠0):bJ xs=xs.drop k:=by
 unfold bJ;rw [Ax xs k (by omega) h,MI hk];have:xs[k]≠0:=by rw [My,MB hk] at hx;exact hx
 rw [MJ,if_neg (by simpa using this)]
theorem KJ {xs:List Nat}(h:∀ i,i<xs.length->xs.getD i 0=0):bJ xs=[0]:=by
 unfold bJ;rw [Ax xs xs.length (Mx _) h,List.drop_length];rfl
theorem n9:(Tryz.prog.info? 3).map (fun i=>(i.zero,i.size,i.bytes))=some (some (.int .i64 0),1,8):=by kernel_rfl
def ag (w:World)(g:Nat)(xs:List Nat):Prop:=Blk w g 3 (ac .i64 (ak xs)).toArray
theorem ag.cell {w:World}{g:Nat}{xs:List Nat}(h:ag w g xs)(i:Nat)(hi:i<xs.length):w.cell? ⟨g,i,none⟩=some (.int .i64 ((xs.getD i 0:Nat):Int)):=by
 have:=Blk.ucell h (i:Int) (by omega) (by rw [ey];omega)
 rw [Int.toNat_natCast] at this;rw [this,<- Au];unfold rd;rw [Int.toNat_natCast]
theorem ag.set {w:World}{g:Nat}{xs:List Nat}(h:ag w g xs)(i v:Nat):ag (w.setCell ⟨g,i,none⟩ (.int .i64 (v:Int))) g (xs.set i v):=by
 have:=Blk.uset h i (v:Int);unfold ag;rw [show ak (xs.set i v)=(ak xs).set i (v:Int) from by simp [ak,List.map_set]];exact this
def b6 (w:World)(g o:Nat)(xs:List Nat):Prop:=∃ ys,ag w g ys/\o+xs.length<=ys.length/\∀ i,i<xs.length->ys.getD (o+i) 0=xs.getD i 0
theorem b6.at_ {w:World}{g o:Nat}{xs:List Nat}(h:b6 w g o xs)(i:Nat)(hi:i<xs.length):w.cell? ⟨g,o+i,none⟩=some (.int .i64 ((xs.getD i 0:Nat):Int)):=by
 obtain⟨ys,h1,h2,h3⟩:=h;rw [h1.cell (o+i) (by omega),h3 i hi]
theorem b6.whole {w:World}{g:Nat}{xs:List Nat}(h:ag w g xs):b6 w g 0 xs:=⟨xs,h,by omega,fun i _=>by rw [ME]⟩
theorem b6.drop {w:World}{g o:Nat}{xs:List Nat}(h:b6 w g o xs)(k:Nat)(hk:k<=xs.length):b6 w g (o+k) (xs.drop k):=by
 obtain⟨ys,h1,h2,h3⟩:=h;refine⟨ys,h1,by rw [List.length_drop];omega,fun i hi=>?_⟩
 rw [List.length_drop] at hi;rw [Nat.add_assoc,h3 (k+i) (by omega),My,My,List.getElem?_drop]
theorem b6.move {w w':World}{g o:Nat}{xs:List Nat}(h:b6 w g o xs)(hm:w'.heap[g]? = w.heap[g]?):b6 w' g o xs:=by
 obtain⟨ys,h1,h2,h3⟩:=h;exact⟨ys,hm.trans h1,h2,h3⟩
theorem b6.lt {w:World}{g o:Nat}{xs:List Nat}(h:b6 w g o xs):g<w.heap.size:=by
 obtain⟨ys,h1,h2,h3⟩:=h;exact Blk.lt h1
theorem b6.below {w w':World}{g o B:Nat}{xs:List Nat}(h:b6 w g o xs)(hb:Below B w w')(hg:g<B):b6 w' g o xs:=h.move (hb.block g hg)
theorem b6.ne {w:World}{g o p:Nat}{t:TypeId}{cs:Array Value}{xs:List Nat}(h:b6 w g o xs)(hp:Blk w p t cs)(ht:3≠t):g≠p:=by
 obtain⟨ys,h1,h2,h3⟩:=h;exact bd h1 hp ht
theorem KK (g o n c k:Nat)(hk:k<=n)(hc:k<c)(W:World):(Instr.slice 93 (.slice (some ⟨g,o,none⟩) n c) (some (.int .i64 (k:Int))) none none).run Tryz.prog W=.ok (.slice (some ⟨g,o+k,none⟩) (n-k) (c-k)) W:=by
 obtain⟨i,hi,hz,hs,hb⟩:=info_parts n9;have hel:Tryz.prog.elem 93=3:=by simp [Program.elem,Tryz.underlying93]
 have hu:Tryz.prog.underlying 93=some (.slice (Tryz.prog.elem 93)):=by rw [hel];exact Tryz.underlying93
 rw [run_slice_l W 93 (some ⟨g,o,none⟩) n c hu .i64 (k:Int) (Int.natCast_nonneg _) (by omega),hel];have e:(⟨g,o,none⟩:Addr).add k=⟨g,o+k,none⟩:=by
  unfold Addr.add;by_cases h:k=0
  ·subst h;simp
  simp [h]
 simp [sizeOf,typeInfo,hi,hs,sliced,Result.andThen,show ¬ c=k by omega,e]
def aB (w:World)(q gf:Nat)(xs:List Nat):Prop:=∃ g o c,Blk w q 253 #[.pointer (some ⟨gf,0,none⟩),.slice (some ⟨g,o,none⟩) xs.length c]/\xs.length<=c/\b6 w g o xs/\xs≠[]
theorem aB.below {w w':World}{q gf B:Nat}{xs:List Nat}(h:aB w q gf xs)(hb:Below B w w')(hB:w.heap.size<=B):aB w' q gf xs:=by
 obtain⟨g,o,c,h1,h2,h3,h4⟩:=h;exact⟨g,o,c,h1.below hb (by have:=h1.lt;omega),h2,h3.below hb (by have:=h3.lt;omega),h4⟩
theorem aB.upd {w w':World}{q gf p:Nat}{t:TypeId}{cs:Array Value}{xs:List Nat}(h:aB w q gf xs)(hu:aC w w' p)(hp:Blk w p t cs)(h3:3≠t)(h4:253≠t):aB w' q gf xs:=by
 obtain⟨g,o,c,k1,k2,k3,k4⟩:=h;exact⟨g,o,c,hu.blk k1 (bd k1 hp h4),k2,k3.move (hu.block g k3.lt (k3.ne hp h3)),k4⟩
def uE (w:World)(gf:Nat)(xs:List Nat)(e:Ending)(w':World):Prop:=∃ q,e=.returned (.tuple #[.pointer (some ⟨q,0,none⟩),.nilIface])/\w.heap.size<=q/\aB w' q gf xs/\Below w.heap.size w w'
theorem Az (w:World)(gf g o c:Nat)(xs:List Nat)(hr:b6 w g o xs)(hc:xs.length<=c)(h0:xs≠[])(h1:xs.length=1\/xs.getD 0 0≠0)(hl:xs.length<=100000) :
  Calls Tryz.prog 146 #[.pointer (some ⟨gf,0,none⟩),.slice (some ⟨g,o,none⟩) xs.length c] w (uE w gf xs):=by
 have hpos:0<xs.length:=by cases xs with | nil=>exact absurd rfl h0 | cons _ _=>simp
 have k0:w.cell? ⟨g,o,none⟩=_:=hr.at_ 0 hpos;obtain⟨n,hn⟩:∃ n,xs.length=n:=⟨_,rfl⟩;obtain⟨x,hx⟩:∃ x,xs.getD 0 0=x:=⟨_,rfl⟩;rw [hx] at k0 h1;have ka:∀ ob,(w.alloc ob).cell? ⟨g,o,none⟩=some (.int .i64 (x:Int)):=fun ob=>g8 (ai (Below.refl _ _) ob) k0
 rw [hn] at hc hl hpos h1;have HR:=Mw hr;have HN:=Mw hn;have hfin:∀ w',w'=w.alloc (.cells #[.pointer (some ⟨gf,0,none⟩),.slice (some ⟨g,o,none⟩) n c] 253)->uE w gf xs (.returned (.tuple #[.pointer (some ⟨w.heap.size,0,none⟩),.nilIface])) w':=by
  rintro w' rfl;exact⟨_,rfl,Mx _,⟨g,o,c,by rw [HN.out];exact Blk.new _ _ _,by rw [HN.out];exact hc,HR.out.below (ai (Below.refl _ _) _) HR.out.lt,h0⟩,ai (Below.refl _ _) _⟩
 have HF:=Mw hfin;rw [hn];clear hr hn hx hfin;by_cases h2:n=1
 ·subst h2;clear h1
  go_enter Tryz.func146,Tryz.ntmps146
  go_wp2
  go_ret2
  exact HF.out _ rfl
 have h3:1<n:=by omega
 have h4:x≠0:=by rcases h1 with h | h;exact absurd h h2;exact h
 have h5:((x:Int)==0)=false:=by simpa using (fun h:(x:Int)=0=>h4 (by omega))
 clear h1 h2 h4
 go_enter Tryz.func146,Tryz.ntmps146
 go_wp2
 go_ret2
 exact HF.out _ rfl
theorem j8 (w:World)(gf g o c:Nat)(xs:List Nat)(hr:b6 w g o xs)(hc:xs.length<=c)(h0:xs≠[])(hl:xs.length<=100000) :
  Calls Tryz.prog 146 #[.pointer (some ⟨gf,0,none⟩),.slice (some ⟨g,o,none⟩) xs.length c] w (uE w gf (bJ xs)):=by
 by_cases hlead:xs.length=1\/xs.getD 0 0≠0
 ·rw [uD hlead h0];exact Az w gf g o c xs hr hc h0 hlead hl
 have hpos:0<xs.length:=by cases xs with | nil=>exact absurd rfl h0 | cons _ _=>simp
 have hn1:1<xs.length:=by
  have:¬ xs.length=1:=fun h=>hlead (.inl h)
  omega
 have hz:xs.getD 0 0=0:=by
  apply Decidable.byContradiction;exact fun h=>hlead (.inr h)
 have k0:w.cell? ⟨g,o,none⟩=_:=hr.at_ 0 hpos;rw [hz] at k0;have ka:∀ ob,(w.alloc ob).cell? ⟨g,o,none⟩=some (.int .i64 0):=fun ob=>g8 (ai (Below.refl _ _) ob) k0
 obtain⟨n,hn⟩:∃ n,xs.length=n:=⟨_,rfl⟩;rw [hn] at hc hl hpos hn1;have HR:=Mw hr;have HN:=Mw hn;have HZ:=Mw hz;have H0:=Mw h0;rw [hn];clear hr hn hz h0 hlead k0
 go_enter Tryz.func146,Tryz.ntmps146
 go_wp2
 obtain⟨w1,hw1⟩:∃ w1,w1=w.alloc (.cells #[.pointer (some ⟨gf,0,none⟩),.slice none 0 0] 253):=⟨_,rfl⟩;rw [<- hw1];obtain⟨B0,hh⟩:∃ B0,B0=w.heap.size:=⟨_,rfl⟩;rw [<- hh];have HBlk:=Mw (show Blk w1 B0 253 #[.pointer (some ⟨gf,0,none⟩),.slice none 0 0] by rw [hw1,hh];exact Blk.new _ _ _)
 have HB1:=Mw (show Below B0 w w1 by rw [hw1,hh];exact ai (Below.refl _ _) _)
 have HR1:=Mw (show b6 w1 g o xs by rw [hw1];exact HR.out.below (ai (Below.refl _ _) _) HR.out.lt)
 have HW:=Mw hw1;have HH:=Mw hh;have f1:=HBlk.out.frozen 1;have c1:w1.cell? ⟨B0,1,none⟩=some (.slice none 0 0):=HBlk.out.cell 1;clear hw1 hh ka
 go_loop [8] (fun v=>∃ k:Nat,1<=k/\k<=n/\v=.int .i64 (k:Int)/\Aside0 (∀ i,i<k->xs.getD i 0=0)) (fun v=>(n-intOf v).toNat)
 case atStart=>exact⟨1,by omega,by omega,rfl,⟨fun i hi=>(show i=0 by omega) ▸ HZ.out⟩⟩
 case round=>
  obtain⟨k,hk1,hk,rfl,HK⟩:=hrel;by_cases hlt:k<n;rotate_left
  ·have:k=n:=by omega
   subst this;have c1a:∀ o,(w1.alloc o).cell? ⟨B0,1,none⟩=some (.slice none 0 0):=fun o=>(HBlk.out.alloc o).cell 1
   have f1a:∀ o,(w1.alloc o).frozen? ⟨B0,1,none⟩=false:=fun o=>(HBlk.out.alloc o).frozen 1
   go_wp2
   go_ret2
   have hst:=KJ (xs:=xs) (fun i hi=>HK.out i (by have:=HN.out;omega))
   rw [hst];obtain⟨w2,hw2⟩:∃ w2,w2=w1.alloc (.cells #[.int .i64 0] 3):=⟨_,rfl⟩;have hb2:Below B0 w w2:=by rw [hw2,HH.out];have h1:=HB1.out;rw [HH.out] at h1;exact ai h1 _
   have hs1:w1.heap.size=B0+1:=by rw [HW.out,HH.out];simp
   have k2:Blk w2 B0 253 #[.pointer (some ⟨gf,0,none⟩),.slice none 0 0]:=by rw [hw2];exact HBlk.out.alloc _
   have k3:ag w2 w1.heap.size [0]:=by rw [hw2];exact Blk.new _ _ _
   rw [<- hw2];have hu:=af.set w2 B0 1 (.slice (some ⟨w1.heap.size,0,none⟩) 1 1);refine⟨B0,rfl,by rw [HH.out];exact Mx _,⟨w1.heap.size,0,1,?_,Mx _,?_,by simp⟩,?_⟩
   ·exact bK k2 1 _
   ·exact b6.whole (hu.blk k3 (by omega))
   rw [<- HH.out];exact hb2.trans (hu.below (Mx _))
  have kc:=HR1.out.at_ k (by have:=HN.out;omega)
  obtain⟨x,hx⟩:∃ x,xs.getD k 0=x:=⟨_,rfl⟩;rw [hx] at kc;by_cases hx0:x=0
  ·subst hx0;have HX:=Mw hx;clear hx
   go_wp2
   go_round
   case rel=>exact⟨k+1,by omega,by omega,by go_num,⟨fun i hi=>by
    by_cases hik:i=k
    ·rw [hik];exact HX.out
    exact HK.out i (by omega)⟩⟩
   case measure=>simp [intOf];omega
  have hb:((x:Int)==0)=false:=by simpa using (fun h:(x:Int)=0=>hx0 (by omega))
  have HX:=Mw hx;have HX0:=Mw hx0;have hkn:((k:Int)==(n:Int))=false:=by simpa using (fun h:(k:Int)=(n:Int)=>by omega)
  have hrun:=KK g o n c k (by omega) (by omega);clear hx hx0
  go_wp2
  go_ret2
  have hst:=KI (xs:=xs) (k:=k) (by have:=HN.out;omega) HK.out (by rw [HX.out];exact HX0.out)
  have hlen:(xs.drop k).length=n-k:=by rw [List.length_drop,HN.out]
  have hw':(w1.setCell ⟨B0,1,none⟩ (.slice (some ⟨g,o+k,none⟩) (n-k) (c-k)))=w.alloc (.cells #[.pointer (some ⟨gf,0,none⟩),.slice (some ⟨g,o+k,none⟩) (n-k) (c-k)] 253):=by
   rw [HW.out,HH.out,Lo];rfl
  rw [hw',hst,HH.out];refine⟨w.heap.size,rfl,Mx _,⟨g,o+k,c-k,by rw [hlen];exact Blk.new _ _ _,by rw [hlen];omega,?_,?_⟩,ai (Below.refl _ _) _⟩
  ·exact (HR.out.drop k (by have:=HN.out;omega)).below (ai (Below.refl _ _) _) HR.out.lt
  intro h0;rw [h0] at hlen;simp at hlen;omega
theorem sa (n:Nat)(h:n<=1000000000)(w:World):(Instr.makeSlice 93 (.int .i64 (n:Int)) (.int .i64 (n:Int))).run Tryz.prog w=.ok (.slice (some ⟨w.heap.size,0,none⟩) n n) (w.alloc (.cells (ac .i64 (ak (MA n 0))).toArray 3)):=by
 obtain⟨i,hi,hz,hs,hb⟩:=info_parts n9;have:=mH (P:=Tryz.prog) 93 3 i (.int .i64 0) Tryz.underlying93 hi hz .i64 .i64 n n (Mx _) (by rw [hb];omega) (by omega) w
 have e:madeCells (Value.int .i64 0).cells (n*1)=(ac .i64 (ak (MA n 0))).toArray:=by
  apply Array.toList_inj.1;rw [Nat.mul_one];exact (toList_madeCells_one _ _).trans (by simp [ac,ak])
 rw [this,hs,e]
theorem KL (xs:List Nat)(i j v:Nat)(hi:i<xs.length):(xs.set i v).getD j 0=if i=j then v else xs.getD j 0:=by
 rw [My,My,List.getElem?_set];by_cases e:i=j
 ·subst e;simp [hi]
 simp [e]
def j9 (m p n i:Nat):List Nat:=(List.range i).map (gx m p)++MA (n-i) 0
theorem KN (m p n i:Nat)(h:i<=n):(j9 m p n i).length=n:=by unfold j9;simp;omega
theorem KO (m p n i:Nat)(h:i<n):(j9 m p n i).set i (gx m p i)=j9 m p n (i+1):=by
 unfold j9;have hl:((List.range i).map (gx m p)).length=i:=by simp
 rw [List.set_append_right _ _ (by omega),hl,Nat.sub_self,show n-i=(n-(i+1))+1 by omega,List.replicate_succ,List.set_cons_zero,List.range_succ,List.map_append,List.append_assoc];rfl
def gH (m p:Nat):List Nat:=(List.range (2 ^ m)).map (gx m p)
theorem KP (m p:Nat):j9 m p (2 ^ m) (2 ^ m)=gH m p:=by unfold j9 gH;simp
theorem sb (m p:Nat):(gH m p).length=2 ^ m:=by simp [gH]
theorem sd (m p i:Nat)(h:i<2 ^ m):(gH m p).getD i 0=gx m p i:=by
 unfold gH;rw [My,List.getElem?_map,List.getElem?_range h];rfl
structure pk (m p n:Nat)(ls:List Nat):Prop where
 len:ls.length=2 ^ m
 log:∀ i,i<n->ls.getD (gx m p i) 0=i
theorem pk.step {m p n:Nat}{ls:List Nat}(F:aG m p)(hP:eA m p)(h:pk m p n ls)(hn:n<2 ^ m-1):pk m p (n+1) (ls.set (gx m p n) n):=by
 refine⟨by rw [List.length_set,h.len],fun i hi=>?_⟩;rw [KL _ _ _ _ (by rw [h.len];exact dm F n)]
 by_cases e:i=n
 ·subst e;rw [if_pos rfl]
 rw [if_neg,h.log i (by omega)];intro he;exact e (sm F hP i n (by omega) hn he.symm)
def bF (w:World)(gf m p b:Nat):Prop:=∃ ge gl zp op ls,Blk w gf 233 #[.slice (some ⟨ge,0,none⟩) (2 ^ m) (2 ^ m),.slice (some ⟨gl,0,none⟩) (2 ^ m) (2 ^ m),.pointer (some ⟨zp,0,none⟩),.pointer (some ⟨op,0,none⟩),.int .i64 ((2 ^ m:Nat):Int),.int .i64 (p:Int),.int .i64 (b:Int)]/\
 ag w ge (gH m p)/\ag w gl ls/\pk m p (2 ^ m-1) ls/\aB w zp gf [0]/\aB w op gf [1]
theorem bF.below {w w':World}{gf m p b B:Nat}(h:bF w gf m p b)(hb:Below B w w')(hB:w.heap.size<=B):bF w' gf m p b:=by
 obtain⟨ge,gl,zp,op,ls,h1,h2,h3,h4,h5,h6⟩:=h;exact⟨ge,gl,zp,op,ls,h1.below hb (by have:=h1.lt;omega),Blk.below h2 hb (by have:=Blk.lt h2;omega),Blk.below h3 hb (by have:=Blk.lt h3;omega),h4,h5.below hb hB,h6.below hb hB⟩
theorem KQ {m p x:Nat}(F:aG m p)(hx:x<2 ^ m)(h:2*x<2 ^ m):gl m p x=2*x:=by
 unfold gl;have hb:x.testBit (m-1)=false:=by
  apply Nat.testBit_lt_two_pow;have:2 ^ m=2*2 ^ (m-1):=by rw [<- Nat.pow_succ'];congr 1;have:=F.one;omega
  omega
 rw [hb,if_neg (by simp),Nat.xor_zero]
theorem KR {m p x:Nat}(F:aG m p)(hx:x<2 ^ m)(h:2 ^ m<=2*x):gl m p x=2*x ^^^ p:=by
 unfold gl;have e:2 ^ m=2*2 ^ (m-1):=by rw [<- Nat.pow_succ'];congr 1;have:=F.one;omega
 have hb:x.testBit (m-1)=true:=by
  rw [Nat.testBit_eq_decide_div_mod_eq,decide_eq_true_eq];have h2:x/2 ^ (m-1)=1:=by
   apply Nat.div_eq_of_lt_le<;>omega
  rw [h2]
 rw [hb,if_pos rfl]
theorem oa (a b:Nat)(ha:a<4294967296)(hb:b<4294967296):Go.bits .xor .i64 (a:Int) (b:Int)=((a ^^^ b:Nat):Int):=by
 have ha':a%2 ^ IntKind.i64.bits=a:=Nat.mod_eq_of_lt (MD ha (by decide));have hb':b%2 ^ IntKind.i64.bits=b:=Nat.mod_eq_of_lt (MD hb (by decide));have hx:a ^^^ b<2 ^ 32:=Nat.xor_lt_two_pow ha hb;simp only [Go.bits,BitVec.ofInt_natCast,BitVec.toNat_xor,BitVec.toNat_ofNat,ha',hb'];rw [IntKind.wrap_i64];omega
set_option maxHeartbeats 4000000 in
theorem KS (w:World)(m p b:Nat)(F:aG m p)(hP:eA m p)(hm:m<=12)(hb:b<=1) :
  Calls Tryz.prog 124 #[.int .i64 (p:Int),.int .i64 ((2 ^ m:Nat):Int),.int .i64 (b:Int)] w fun e w'=>∃ gf,e=.returned (.pointer (some ⟨gf,0,none⟩))/\w.heap.size<=gf/\bF w' gf m p b/\Below w.heap.size w w':=by
 obtain⟨N,hN⟩:∃ N,2 ^ m=N:=⟨_,rfl⟩;have hN1:N<=4096:=by rw [<- hN];exact Mz (MC (by omega) hm) (by decide)
 have hN2:2<=N:=by rw [<- hN];exact Mz (by decide:2<=2 ^ 1) (MC (by omega) F.one)
 have hp1:p<=8192:=by have:=F.hi;rw [Nat.pow_succ,hN] at this;omega
 rw [hN];have HN:=Mw hN;have HF:=Mw F;have HP:=Mw hP;clear hN F hP;have mk1:=sa N (by omega)
 go_enter Tryz.func124,Tryz.ntmps124
 go_wp2
 obtain⟨B0,hB0⟩:∃ B0,B0=w.heap.size:=⟨_,rfl⟩;rw [<- hB0];obtain⟨w2,hw2⟩:∃ w2,w2=((w.alloc (.cells #[.slice none 0 0,.slice none 0 0,.pointer none,.pointer none,.int .i64 (N:Int),.int .i64 (p:Int),.int .i64 (b:Int)] 233)).alloc (.cells (ac .i64 (ak (MA N 0))).toArray 3)).alloc (.cells (ac .i64 (ak (MA N 0))).toArray 3):=⟨_,rfl⟩;rw [<- hw2];have HBG:=Mw (show Blk w2 B0 233 #[.slice none 0 0,.slice none 0 0,.pointer none,.pointer none,.int .i64 (N:Int),.int .i64 (p:Int),.int .i64 (b:Int)] by rw [hw2,hB0];exact ((Blk.new w _ _).alloc _).alloc _)
 have HBE:=Mw (show ag w2 (B0+1) (MA N 0) by
  rw [hw2,hB0];have h:=Blk.new (w.alloc (.cells #[.slice none 0 0,.slice none 0 0,.pointer none,.pointer none,.int .i64 (N:Int),.int .i64 (p:Int),.int .i64 (b:Int)] 233)) 3 (ac .i64 (ak (MA N 0))).toArray;have h2:=h.alloc (.cells (ac .i64 (ak (MA N 0))).toArray 3);unfold ag;simpa using h2)
 have HBL:=Mw (show ag w2 (B0+1+1) (MA N 0) by
  rw [hw2,hB0];have h:=Blk.new ((w.alloc (.cells #[.slice none 0 0,.slice none 0 0,.pointer none,.pointer none,.int .i64 (N:Int),.int .i64 (p:Int),.int .i64 (b:Int)] 233)).alloc (.cells (ac .i64 (ak (MA N 0))).toArray 3)) 3 (ac .i64 (ak (MA N 0))).toArray;unfold ag;simpa using h)
 have HBW:=Mw (show Below B0 w w2 by rw [hw2,hB0];exact ai (ai (ai (Below.refl _ _) _) _) _)
 have HB0:=Mw hB0;clear hw2 hB0 mk1
 go_loopw [10,11] (fun vx vi wr=>∃ i x:Nat,i<=N/\vi=.int .i64 (i:Int)/\vx=.int .i64 (x:Int)/\x<N/\Aside0 (x=gx m p i)/\Aside0 (ag wr (B0+1) (j9 m p N i))/\Aside0 (af w2 wr (B0+1))) (fun _ vi _=>(N-intOf vi).toNat)
 case atStart=>exact⟨0,1,by omega,rfl,rfl,by omega,⟨rfl⟩,⟨by have:=HBE.out;exact this⟩,⟨af.refl _ _⟩⟩
 case round=>
  obtain⟨i,x,hi,rfl,rfl,hx,HX,HE,HT⟩:=hrel;by_cases hlt:i<N
  ·have hel:=KN m p N i (by omega);have k1:=HE.out.cell i (by omega);have k2:wr.frozen? ⟨B0+1,i,none⟩=false:=Blk.frozen HE.out i;obtain⟨y,hy⟩:∃ y,(j9 m p N i).getD i 0=y:=⟨_,rfl⟩;rw [hy] at k1;have hgl:=AQ HF.out x (by rw [HN.out];omega)
   have hsucc:gl m p x=gx m p (i+1):=by rw [A9,<- HX.out]
   have hset:ag (wr.setCell ⟨B0+1,i,none⟩ (.int .i64 (x:Int))) (B0+1) (j9 m p N (i+1)):=by
    rw [<- KO m p N i hlt,<- HX.out];exact HE.out.set i x
   have hT2:af w2 (wr.setCell ⟨B0+1,i,none⟩ (.int .i64 (x:Int))) (B0+1):=HT.out.trans (af.set _ _ _ _);rw [HN.out] at hgl;obtain⟨z,hz⟩:∃ z,gl m p x=z:=⟨_,rfl⟩;rw [hz] at hgl hsucc;have HS:=Mw hsucc;have HSET:=Mw hset;have HT2:=Mw hT2;have HZ:=Mw hz;clear hel hy hsucc hz hset hT2;by_cases hsm:2*x<N
   ·have hzx:2*x=z:=by rw [<- HZ.out,KQ HF.out (by rw [HN.out];omega) (by rw [HN.out];omega)]
    have hzi:(x:Int)*2=(z:Int):=by omega
    have hzb:decide ((z:Int)≥(N:Int))=false:=decide_eq_false (by omega);clear hzx
    go_wp2
    go_roundw
    case rel=>exact⟨i+1,z,by omega,by go_num,rfl,hgl,HS,HSET,HT2⟩
    case measure=>simp [intOf];omega
   have hzx:2*x ^^^ p=z:=by rw [<- HZ.out,KR HF.out (by rw [HN.out];omega) (by rw [HN.out];omega)]
   have hxr:Go.bits .xor .i64 ((x:Int)*2) (p:Int)=(z:Int):=by
    have:=oa (2*x) p (by omega) (by omega);rw [hzx] at this;rw [<- this];congr 1;omega
   have had:Go.bits .and .i64 (z:Int) ((N:Int)-1)=(z:Int):=by
    have:=pz z (N-1) (by omega) (by omega);rw [show ((N-1:Nat):Int)=(N:Int)-1 by omega] at this;rw [this,<- HN.out,MF,HN.out,Nat.mod_eq_of_lt hgl]
   clear hzx
   go_wp2
   go_roundw
   case rel=>exact⟨i+1,z,by omega,by go_num,rfl,hgl,HS,HSET,HT2⟩
   case measure=>simp [intOf];omega
  have:i=N:=by omega
  subst this
  go_wp2
  have HEall:=Mw (show ag wr (B0+1) (gH m p) by have:=HE.out;rw [<- HN.out,KP] at this;exact this)
  have HBL2:=Mw (show ag wr (B0+1+1) (MA i 0) from HT.out.blk HBL.out (by omega));obtain⟨w3,rfl⟩:∃ w3:World,w3=wr:=⟨_,rfl⟩
  go_loopw [12] (fun vi w4=>∃ j:Nat,∃ ls,j<=i-1/\vi=.int .i64 (j:Int)/\Aside0 (ag w4 (B0+1+1) ls)/\Aside0 (pk m p j ls)/\Aside0 (af w3 w4 (B0+1+1))) (fun vi _=>(i-intOf vi).toNat)
  case atStart=>exact⟨0,_,by omega,rfl,HBL2,⟨⟨by rw [List.length_replicate,HN.out],fun _ h=>by omega⟩⟩,⟨af.refl _ _⟩⟩
  case round=>
   obtain⟨j,ls,hj,rfl,HL,HLG,HT4⟩:=hrel;by_cases hltj:j<i-1
   ·have hge:ag wr (B0+1) (gH m p):=HT4.out.blk HEall.out (by omega);have k1:=hge.cell j (by rw [sb,HN.out];omega)
    rw [sd m p j (by rw [HN.out];omega)] at k1
    have hgl:=dm HF.out j;rw [HN.out] at hgl;obtain⟨x,hx⟩:∃ x,gx m p j=x:=⟨_,rfl⟩;rw [hx] at k1 hgl;have k2:=HL.out.cell x (by rw [HLG.out.len,HN.out];omega)
    have k3:wr.frozen? ⟨B0+1+1,x,none⟩=false:=Blk.frozen HL.out x;have HSL:=Mw (HLG.out.step HF.out HP.out (by rw [HN.out];omega))
    rw [hx] at HSL;have HSET:=Mw (HL.out.set x j);have HT5:=Mw (HT4.out.trans (af.set wr (B0+1+1) x (.int .i64 (j:Int))));clear hge hx
    go_wp2
    go_roundw
    case rel=>exact⟨j+1,_,by omega,by go_num,HSET,HSL,HT5⟩
    case measure=>simp [intOf];omega
   have:j=i-1:=by omega
   subst this;have hwrap:((i-1:Nat):Int)=(i:Int)-1:=by omega
   have hbg:Blk wr B0 233 #[.slice none 0 0,.slice none 0 0,.pointer none,.pointer none,.int .i64 (i:Int),.int .i64 (p:Int),.int .i64 (b:Int)]:=HT4.out.blk (HT.out.blk HBG.out (by omega)) (by omega);have c0:=hbg.cell 0;have c1:=hbg.cell 1;have f0:=hbg.frozen 0;have f1:=hbg.frozen 1;have HBG5:=Mw hbg;clear hbg
   go_wp2_with fail
   obtain⟨w5,hw5⟩:∃ w5,w5=(wr.setCell ⟨B0,0,none⟩ (.slice (some ⟨B0+1,0,none⟩) i i)).setCell ⟨B0,1,none⟩ (.slice (some ⟨B0+1+1,0,none⟩) i i):=⟨_,rfl⟩;have HT5:=Mw (show af wr w5 B0 by rw [hw5];exact (af.set _ _ _ _).trans (af.set _ _ _ _))
   have HG5:=Mw (show Blk w5 B0 233 #[.slice (some ⟨B0+1,0,none⟩) i i,.slice (some ⟨B0+1+1,0,none⟩) i i,.pointer none,.pointer none,.int .i64 (i:Int),.int .i64 (p:Int),.int .i64 (b:Int)] by
    rw [hw5];exact bK (bK HBG5.out 0 _) 1 _)
   rw [<- hw5];have hsz:wr.heap.size=w5.heap.size:=HT5.out.size.symm;rw [hsz];clear hw5 hsz c0 c1 f0 f1;have hb6:=Mw (ai (Below.refl w5.heap.size w5) (.cells #[.int .i64 0] 3));refine (j8 _ B0 w5.heap.size 0 1 [0] (b6.whole (show ag (w5.alloc (.cells (ac .i64 (ak [0])).toArray 3)) w5.heap.size [0] from Blk.new w5 3 (ac .i64 (ak [0])).toArray)) (by simp) (by simp) (by simp)).mono ?_;rintro e w7 ⟨zp,rfl,hzp,hPZ,hB7⟩;have hs6:w5.heap.size+1=(w5.alloc (.cells #[.int .i64 0] 3)).heap.size:=by simp
   have HB57:=Mw (show Below w5.heap.size w5 w7 from hb6.out.trans (hB7.mono (by simp)));have hG7:Blk w7 B0 233 #[.slice (some ⟨B0+1,0,none⟩) i i,.slice (some ⟨B0+1+1,0,none⟩) i i,.pointer none,.pointer none,.int .i64 (i:Int),.int .i64 (p:Int),.int .i64 (b:Int)]:=HG5.out.below HB57.out HG5.out.lt;have c2:=hG7.cell 2;have f2:=hG7.frozen 2;have hzp':w5.heap.size<zp:=by have:(w5.alloc (.cells #[.int .i64 0] 3)).heap.size<=zp:=hzp;omega
   have HPZ:=Mw hPZ;have HG7:=Mw hG7;have HZP:=Mw hzp';clear hPZ hB7 hzp hs6 hG7 hzp'
   go_wp2_with fail
   obtain⟨w8,hw8⟩:∃ w8,w8=w7.setCell ⟨B0,2,none⟩ (.pointer (some ⟨zp,0,none⟩)):=⟨_,rfl⟩;have HT8:=Mw (show af w7 w8 B0 by rw [hw8];exact af.set _ _ _ _)
   have HG8:=Mw (show Blk w8 B0 233 #[.slice (some ⟨B0+1,0,none⟩) i i,.slice (some ⟨B0+1+1,0,none⟩) i i,.pointer (some ⟨zp,0,none⟩),.pointer none,.int .i64 (i:Int),.int .i64 (p:Int),.int .i64 (b:Int)] by
    rw [hw8];exact bK HG7.out 2 _)
   rw [<- hw8];have hsz:w7.heap.size=w8.heap.size:=HT8.out.size.symm;rw [hsz];clear hw8 hsz c2 f2;have hb9:=Mw (ai (Below.refl w8.heap.size w8) (.cells #[.int .i64 1] 3));refine (j8 _ B0 w8.heap.size 0 1 [1] (b6.whole (show ag (w8.alloc (.cells (ac .i64 (ak [1])).toArray 3)) w8.heap.size [1] from Blk.new w8 3 (ac .i64 (ak [1])).toArray)) (by simp) (by simp) (by simp)).mono ?_;rintro e w9 ⟨op,rfl,hop,hPO,hB9⟩;have hs9:w8.heap.size+1=(w8.alloc (.cells #[.int .i64 1] 3)).heap.size:=by simp
   have HB89:=Mw (show Below w8.heap.size w8 w9 from hb9.out.trans (hB9.mono (by simp)));have hG9:Blk w9 B0 233 #[.slice (some ⟨B0+1,0,none⟩) i i,.slice (some ⟨B0+1+1,0,none⟩) i i,.pointer (some ⟨zp,0,none⟩),.pointer none,.int .i64 (i:Int),.int .i64 (p:Int),.int .i64 (b:Int)]:=HG8.out.below HB89.out HG8.out.lt;have c3:=hG9.cell 3;have f3:=hG9.frozen 3;have hop':w8.heap.size<op:=by have:(w8.alloc (.cells #[.int .i64 1] 3)).heap.size<=op:=hop;omega
   have HPO:=Mw hPO;have HG9:=Mw hG9;have HOP:=Mw hop';clear hPO hB9 hop hs9 hG9 hop'
   go_wp2_with fail
   go_ret
   obtain⟨wz,hwz⟩:∃ wz,wz=w9.setCell ⟨B0,3,none⟩ (.pointer (some ⟨op,0,none⟩)):=⟨_,rfl⟩;have hTz:af w9 wz B0:=by rw [hwz];exact af.set _ _ _ _
   have hGz:Blk wz B0 233 #[.slice (some ⟨B0+1,0,none⟩) i i,.slice (some ⟨B0+1+1,0,none⟩) i i,.pointer (some ⟨zp,0,none⟩),.pointer (some ⟨op,0,none⟩),.int .i64 (i:Int),.int .i64 (p:Int),.int .i64 (b:Int)]:=by
    rw [hwz];exact bK HG9.out 3 _
   rw [<- hwz];have sB:B0=w.heap.size:=HB0.out;have s2:wr.heap.size=w3.heap.size:=HT4.out.size;have s5:w5.heap.size=wr.heap.size:=HT5.out.size;have s57:w5.heap.size<=w7.heap.size:=HB57.out.size;have s78:w8.heap.size=w7.heap.size:=HT8.out.size;have s89:w8.heap.size<=w9.heap.size:=HB89.out.size;have hT9:=(af.set w9 B0 3 (.pointer (some ⟨op,0,none⟩)));rw [<- hwz] at hT9;have lBE:B0+1<wr.heap.size:=Blk.lt (HT4.out.blk HEall.out (by omega):ag wr (B0+1) (gH m p));have lBL:B0+1+1<wr.heap.size:=Blk.lt HL.out;have kE:ag wz (B0+1) (gH m p):=by
    have a4:ag wr (B0+1) (gH m p):=HT4.out.blk HEall.out (by omega);have a5:ag w5 (B0+1) (gH m p):=HT5.out.blk a4 (by omega);have a7:ag w7 (B0+1) (gH m p):=Blk.below a5 HB57.out (Blk.lt a5);have a8:ag w8 (B0+1) (gH m p):=HT8.out.blk a7 (by omega);have a9:ag w9 (B0+1) (gH m p):=Blk.below a8 HB89.out (Blk.lt a8);exact hT9.blk a9 (by omega)
   have kL:ag wz (B0+1+1) ls:=by
    have a5:ag w5 (B0+1+1) ls:=HT5.out.blk HL.out (by omega);have a7:ag w7 (B0+1+1) ls:=Blk.below a5 HB57.out (Blk.lt a5);have a8:ag w8 (B0+1+1) ls:=HT8.out.blk a7 (by omega);have a9:ag w9 (B0+1+1) ls:=Blk.below a8 HB89.out (Blk.lt a8);exact hT9.blk a9 (by omega)
   have kZ:aB wz zp B0 [0]:=by
    have a7:aB w7 zp B0 [0]:=HPZ.out;have a8:aB w8 zp B0 [0]:=a7.upd (aC.of_turn HT8.out) HG7.out (by decide) (by decide);have a9:aB w9 zp B0 [0]:=a8.below HB89.out (Mx _);exact a9.upd (aC.of_turn hT9) HG9.out (by decide) (by decide)
   have kO:aB wz op B0 [1]:=by
    have a9:aB w9 op B0 [1]:=HPO.out;exact a9.upd (aC.of_turn hT9) HG9.out (by decide) (by decide)
   refine⟨B0,rfl,by omega,⟨B0+1,B0+1+1,zp,op,ls,?_,kE,kL,?_,kZ,kO⟩,?_⟩
   ·rw [HN.out];exact hGz
   ·rw [HN.out];exact HLG.out
   rw [<- sB];have b3:Below B0 w w3:=HBW.out.trans (HT.out.below (by omega));have b4:Below B0 w wr:=b3.trans (HT4.out.below (by omega));have b5:Below B0 w w5:=b4.trans (HT5.out.below (by omega));have b7:Below B0 w w7:=b5.trans (HB57.out.mono (by omega));have b8:Below B0 w w8:=b7.trans (HT8.out.below (by omega));have b9:Below B0 w w9:=b8.trans (HB89.out.mono (by omega));exact b9.trans (hT9.below (by omega))
def Drawn (w w':World):Prop:=∃ n,w'=w.drewN n
theorem AA (w:World)(gf m p b i:Nat)(h:bF w gf m p b)(hi:i<2 ^ m):Calls Tryz.prog 176 #[.pointer (some ⟨gf,0,none⟩),.int .i64 (i:Int)] w fun e w'=>e=.returned (.int .i64 (gx m p i:Int))/\w'=w:=by
 obtain⟨ge,gl,zp,op,ls,h1,h2,-⟩:=h;have c0:w.cell? ⟨gf,0,none⟩=some (.slice (some ⟨ge,0,none⟩) (2 ^ m) (2 ^ m)):=h1.cell 0;have k:=h2.cell i (by rw [sb];exact hi)
 rw [sd m p i hi] at k;obtain⟨N,hN⟩:∃ N,2 ^ m=N:=⟨_,rfl⟩;obtain⟨x,hx⟩:∃ x,gx m p i=x:=⟨_,rfl⟩;rw [hN] at c0 hi;rw [hx] at k ⊢;clear h1 h2 hN hx
 go_enter Tryz.func176,Tryz.ntmps176
 go_wp2
 go_ret
 exact⟨rfl,rfl⟩
theorem uF (w:World)(gf m p b:Nat)(h:bF w gf m p b):Calls Tryz.prog 177 #[.pointer (some ⟨gf,0,none⟩)] w fun e w'=>e=.returned (.int .i64 (b:Int))/\w'=w:=by
 obtain⟨ge,gl,zp,op,ls,h1,-⟩:=h;have c0:w.cell? ⟨gf,6,none⟩=some (.int .i64 (b:Int)):=h1.cell 6;clear h1
 go_enter Tryz.func177,Tryz.ntmps177
 go_wp2
 go_ret
 exact⟨rfl,rfl⟩
theorem oc (w:World)(a b:Nat)(ha:a<4294967296)(hb:b<4294967296):Calls Tryz.prog 184 #[.int .i64 (a:Int),.int .i64 (b:Int)] w fun e w'=>e=.returned (.int .i64 ((a ^^^ b:Nat):Int))/\w'=w:=by
 have k:=oa a b ha hb
 go_enter Tryz.func184,Tryz.ntmps184
 go_wp2
 go_ret
 exact⟨rfl,rfl⟩
theorem KT (s n:Nat):Int.tmod (s:Int) (n:Int)=((s%n:Nat):Int):=by
 rw [Int.tmod_eq_emod_of_nonneg (by omega)];rfl
theorem lw (w:World)(gf m p b x y:Nat)(F:aG m p)(hP:eA m p)(hm:m<=12)(h:bF w gf m p b)(hx:x<2 ^ m)(hy:y<2 ^ m):Calls Tryz.prog 186 #[.pointer (some ⟨gf,0,none⟩),.int .i64 (x:Int),.int .i64 (y:Int)] w fun e w'=>e=.returned (.int .i64 (gm m p x y:Int))/\Drawn w w':=by
 by_cases hx0:x=0
 ·subst hx0;rw [fh];clear h hx hy
  go_enter Tryz.func186,Tryz.ntmps186
  go_wp2
  go_ret
  exact⟨rfl,0,rfl⟩
 by_cases hy0:y=0
 ·subst hy0;rw [ko];clear h hx hy
  go_enter Tryz.func186,Tryz.ntmps186
  go_wp2
  go_ret
  exact⟨rfl,0,rfl⟩
 obtain⟨i,hi,hgi⟩:=oe F hP x hx0 hx;obtain⟨j,hj,hgj⟩:=oe F hP y hy0 hy;obtain⟨ge,gl,zp,op,ls,h1,h2,h3,h4,-⟩:=h;have c0:w.cell? ⟨gf,0,none⟩=some (.slice (some ⟨ge,0,none⟩) (2 ^ m) (2 ^ m)):=h1.cell 0;have c1:w.cell? ⟨gf,1,none⟩=some (.slice (some ⟨gl,0,none⟩) (2 ^ m) (2 ^ m)):=h1.cell 1;have c4:w.cell? ⟨gf,4,none⟩=some (.int .i64 ((2 ^ m:Nat):Int)):=h1.cell 4;have l1:=h3.cell x (by rw [h4.len];exact hx)
 have l2:=h3.cell y (by rw [h4.len];exact hy)
 rw [<- hgi,h4.log i hi,hgi] at l1;rw [<- hgj,h4.log j hj,hgj] at l2;have ho:=uR F;have hq:(i+j)%(2 ^ m-1)<2 ^ m:=MD (Nat.mod_lt _ ho) (Nat.sub_le _ _);have l3:=h2.cell ((i+j)%(2 ^ m-1)) (by rw [sb];exact hq)
 rw [sd m p _ hq,<- Ma F hP,hgi,hgj] at l3;obtain⟨N,hN⟩:∃ N,2 ^ m=N:=⟨_,rfl⟩;have hN4:N<=4096:=by rw [<- hN];exact Mz (MC (by omega) hm) (by decide)
 rw [hN] at c0 c1 c4 l3 hi hj hx hy ho hq;obtain⟨s,hs⟩:∃ s,(i+j)%(N-1)=s:=⟨_,rfl⟩;obtain⟨r,hr⟩:∃ r,gm m p x y=r:=⟨_,rfl⟩;have ht:Int.tmod ((i:Int)+(j:Int)) ((N:Int)-1)=(s:Int):=by
  rw [show (i:Int)+(j:Int)=((i+j:Nat):Int) by omega,show (N:Int)-1=((N-1:Nat):Int) by omega,KT,hs]
 rw [hs] at l3 hq;rw [hr] at l3 ⊢;have bx:((x:Int)==0)=false:=by simp;omega
 have by_:((y:Int)==0)=false:=by simp;omega
 have hne:¬ ((N:Int)-1=0):=by omega
 clear h1 h2 h3 h4 hN hs hr hgi hgj F hP
 go_enter Tryz.func186,Tryz.ntmps186
 go_wp2
 go_quiet (fail)
 go_wp2
 go_ret
 exact⟨rfl,_,rfl⟩
theorem pm (xs:List Nat)(i:Nat)(h:i<xs.length):xs.take (i+1)=xs.take i++[xs.getD i 0]:=by
 rw [List.take_add_one,MB h];simp [List.getD,MB h]
theorem AB {m p:Nat}(F:aG m p)(r:Nat)(hr:r<2 ^ m)(xs:List Nat)(hl:ab m xs)(i:Nat)(hi:i<xs.length):ao m p r (xs.take (i+1))=gm m p r (ao m p r (xs.take i)) ^^^ xs.getD i 0:=by
 have h1:ab m (xs.take i):=fun x hx=>hl x (List.mem_of_mem_take hx)
 have h2:xs.getD i 0<2 ^ m:=hl _ (by simp [List.getD,MB hi]);rw [pm xs i hi,sj F r hr _ _ h1 h2,jL F _ r (jf F r _ h1) hr]
theorem aF {m:Nat}{xs:List Nat}(hl:ab m xs)(i:Nat):xs.getD i 0<2 ^ m:=by
 by_cases h:i<xs.length
 ·exact hl _ (by simp [List.getD,MB h])
 simp [List.getD,List.getElem?_eq_none (Nat.le_of_not_lt h),Nat.two_pow_pos]
theorem KU {m p:Nat}(F:aG m p)(xs:List Nat)(hl:ab m xs)(h0:xs≠[]):ao m p 0 xs=xs.getD (xs.length-1) 0:=by
 have hpos:0<xs.length:=by cases xs with | nil=>exact absurd rfl h0 | cons _ _=>simp
 have:=AB F 0 (Nat.two_pow_pos m) xs hl (xs.length-1) (by omega);rw [show xs.length-1+1=xs.length by omega,List.take_length,fh,Nat.zero_xor] at this;exact this
theorem po (w:World)(q gf k:Nat)(xs:List Nat)(h:aB w q gf xs)(hk:k<xs.length)(hl:xs.length<=100000):Calls Tryz.prog 185 #[.pointer (some ⟨q,0,none⟩),.int .i64 (k:Int)] w fun e w'=>e=.returned (.int .i64 ((xs.getD (xs.length-1-k) 0:Nat):Int))/\Drawn w w':=by
 obtain⟨g,o,c,h1,h2,h3,h4⟩:=h;have c1:w.cell? ⟨q,1,none⟩=some (.slice (some ⟨g,o,none⟩) xs.length c):=h1.cell 1;have k1:=h3.at_ (xs.length-1-k) (by omega);obtain⟨v,hv⟩:∃ v,xs.getD (xs.length-1-k) 0=v:=⟨_,rfl⟩;rw [hv] at k1 ⊢;obtain⟨n,hn⟩:∃ n,xs.length=n:=⟨_,rfl⟩;rw [hn] at c1 k1 hk hl h2;obtain⟨i,hi⟩:∃ i,n-1-k=i:=⟨_,rfl⟩;rw [hi] at k1;have hii:(n:Int)-1-(k:Int)=(i:Int):=by omega
 have hin:i<n:=by omega
 clear h1 h3 h4 hv hn hi
 go_enter Tryz.func185,Tryz.ntmps185
 go_wp2
 go_quiet (fail)
 go_wp2
 go_ret
 exact⟨rfl,_,rfl⟩
theorem Drawn.below {w w':World}(h:Drawn w w'):Below w.heap.size w w':=by
 obtain⟨n,rfl⟩:=h;exact au (Below.refl _ _) n
theorem Drawn.more {w w':World}(h:Drawn w w')(n:Nat):Drawn w (w'.drewN n):=by
 obtain⟨k,rfl⟩:=h;exact⟨k+n,by rw [World.drewN_drewN]⟩
theorem Drawn.refl (w:World):Drawn w w:=⟨0,rfl⟩
theorem Drawn.trans {a b c:World}(h:Drawn a b)(k:Drawn b c):Drawn a c:=by
 obtain⟨n,rfl⟩:=k;exact h.more n
theorem bF.drawn {w:World}{gf m p b:Nat}(h:bF w gf m p b)(n:Nat):bF (w.drewN n) gf m p b:=h.below (au (Below.refl w.heap.size w) n) (Mx _)
theorem aB.drawn {w:World}{q gf:Nat}{xs:List Nat}(h:aB w q gf xs)(n:Nat):aB (w.drewN n) q gf xs:=h.below (au (Below.refl w.heap.size w) n) (Mx _)
set_option maxHeartbeats 1000000 in
theorem se (w:World)(q gf m p b a:Nat)(xs:List Nat)(F:aG m p)(hP:eA m p)(hm:m<=12)(hG:bF w gf m p b)(h:aB w q gf xs)(hx:ab m xs)(ha:a<2 ^ m)(hl:xs.length<=100000) :
  Calls Tryz.prog 175 #[.pointer (some ⟨q,0,none⟩),.int .i64 (a:Int)] w fun e w'=>e=.returned (.int .i64 (ao m p a xs:Int))/\Drawn w w':=by
 obtain⟨N,hN⟩:∃ N,2 ^ m=N:=⟨_,rfl⟩;have hN4:N<=4096:=by rw [<- hN];exact Mz (MC (by omega) hm) (by decide)
 have hN2:2<=N:=by rw [<- hN];exact Mz (by decide:2<=2 ^ 1) (MC (by omega) F.one)
 have hpv:∀ i,ao m p a (xs.take i)<N:=fun i=>by rw [<- hN];exact jf F a _ (fun x hx'=>hx x (List.mem_of_mem_take hx'))
 have hgl:∀ i,xs.getD i 0<N:=fun i=>by rw [<- hN];exact aF hx i
 have hstep:=AB F a ha xs hx;have h0:xs≠[]:=by obtain⟨g,o,c,h1,h2,h3,h4⟩:=h;exact h4
 have hpos:0<xs.length:=by cases hxs:xs with | nil=>exact absurd hxs h0 | cons _ _=>simp
 obtain⟨n,hn⟩:∃ n,xs.length=n:=⟨_,rfl⟩;by_cases ha0:a=0
 ·have k:=po w q gf 0 xs h hpos hl;rw [Nat.sub_zero,<- KU F xs hx h0,<- ha0] at k;obtain⟨v,hv⟩:∃ v,ao m p a xs=v:=⟨_,rfl⟩;rw [hv] at k ⊢;clear hv hstep hpv hgl h hG hx ha hN F hP;subst ha0
  go_enter Tryz.func175,Tryz.ntmps175
  go_wp2_with (go_at_call 185;refine k.mono ?_;rintro e w' ⟨rfl,hd⟩)
  go_ret
  exact⟨rfl,hd⟩
 have HF:=Mw F;have HP:=Mw hP;have HX:=Mw hx;have HG:=Mw hG;have HPO:=Mw h;have HPV:=Mw hpv;have HGL:=Mw hgl;have HST:=Mw hstep;have HN:=Mw hN;have HA:=Mw ha;have hall:xs.take n=xs:=by rw [<- hn];exact List.take_length
 have HALL:=Mw hall;have HLN:=Mw hn;rw [hn] at hpos hl;have haN:a<N:=by rw [<- hN];exact ha
 obtain⟨g,o,c,h1,h2,h3,h4⟩:=h;rw [hn] at h1 h2;have c0:w.cell? ⟨q,0,none⟩=some (.pointer (some ⟨gf,0,none⟩)):=h1.cell 0;have c1:w.cell? ⟨q,1,none⟩=some (.slice (some ⟨g,o,none⟩) n c):=h1.cell 1;have HR:=Mw h3;have HB1:=Mw h1;have hp1:xs.getD 0 0=ao m p a (xs.take 1):=by
  have:=hstep 0 (by omega);rw [List.take_zero] at this;rw [this];show _=gm m p a 0 ^^^ _;rw [ko,Nat.zero_xor]
 have HP1:=Mw hp1;clear F hP hx hG h1 h3 h4 hpv hgl hstep hN ha hall hn h0 hp1;by_cases ha1:a=1
 ·subst ha1;show Calls Tryz.prog 175 #[.pointer (some ⟨q,0,none⟩),.int .i64 1] w _
  go_enter Tryz.func175,Tryz.ntmps175
  go_wp2
  go_loopw [5,22] (fun vr vi wr=>∃ i r:Nat,vi=.int .i64 (i:Int)/\vr=.int .i64 (r:Int)/\i<=n/\r<4096/\Aside0 (r=ao m p 1 (xs.take i))/\wr=w) (fun _ vi _=>(n-intOf vi).toNat)
  case atStart=>exact⟨0,0,rfl,rfl,by omega,by omega,⟨by rfl⟩,by first | rfl | trivial⟩
  case round=>
   obtain⟨i,r,rfl,rfl,hi,hr,HRR,rfl⟩:=hrel;by_cases hin:i<n;rotate_left
   ·have:n=i:=by omega
    subst this
    go_wp2
    go_ret
    have e:ao m p 1 xs=r:=by rw [HRR.out,HALL.out]
    exact⟨by first | (rw [e];done) | (rw [e];rfl),Drawn.refl _⟩
   have k1:=HR.out.at_ i (by rw [HLN.out];exact hin)
   obtain⟨x,hx⟩:∃ x,xs.getD i 0=x:=⟨_,rfl⟩;rw [hx] at k1;have hxN:x<4096:=by have:=HGL.out i;omega
   have hnew:r ^^^ x=ao m p 1 (xs.take (i+1)):=by
    rw [HST.out i (by rw [HLN.out];exact hin),hx,<- HRR.out,Ba HF.out r (by rw [HN.out,HRR.out];exact HPV.out i)]
   obtain⟨r2,hr2⟩:∃ r2,r ^^^ x=r2:=⟨_,rfl⟩;have hr2N:r2<4096:=by rw [<- hr2,hnew];have:=HPV.out (i+1);omega
   have ka:=oc wr r x (by omega) (by omega);rw [hr2] at ka hnew;have HNEW:=Mw hnew;clear hx hnew hr2
   go_wp2_with (go_at_call 184;refine ka.mono ?_;rintro e w' ⟨rfl,rfl⟩)
   go_roundw
   case rel=>exact⟨i+1,r2,by go_num,rfl,by omega,by omega,HNEW,by first | rfl | trivial⟩
   case measure=>simp [intOf];omega
 have ba0:((a:Int)==0)=false:=by simp;omega
 have ba1:((a:Int)==1)=false:=by simp;omega
 have k0:=HR.out.at_ 0 (by rw [HLN.out];exact hpos)
 rw [Nat.add_zero,HP1.out] at k0;obtain⟨r0,hr0⟩:∃ r0,ao m p a (xs.take 1)=r0:=⟨_,rfl⟩;rw [hr0] at k0;have HR0:=Mw hr0;have hr0N:r0<4096:=by rw [<- hr0];have:=HPV.out 1;omega
 clear hr0
 go_enter Tryz.func175,Tryz.ntmps175
 go_wp2
 go_loopw [8,10] (fun vr vi wr=>∃ i r:Nat,vi=.int .i64 (i:Int)/\vr=.int .i64 (r:Int)/\1<=i/\i<=n/\r<4096/\Aside0 (r=ao m p a (xs.take i))/\Aside0 (Drawn w wr)) (fun _ vi _=>(n-intOf vi).toNat)
 case atStart=>exact⟨1,r0,rfl,rfl,by omega,by omega,by omega,⟨HR0.out.symm⟩,⟨Drawn.refl _⟩⟩
 case round=>
  obtain⟨i,r,rfl,rfl,hi1,hi,hr,HRR,HD⟩:=hrel;by_cases hin:i<n;rotate_left
  ·have:n=i:=by omega
   subst this
   go_wp2
   go_ret
   have e:ao m p a xs=r:=by rw [HRR.out,HALL.out]
   exact⟨by first | (rw [e];done) | (rw [e];rfl),HD.out⟩
  have d0:wr.cell? ⟨q,0,none⟩=some (.pointer (some ⟨gf,0,none⟩)):=(HB1.out.below HD.out.below HB1.out.lt).cell 0;have d1:wr.cell? ⟨q,1,none⟩=some (.slice (some ⟨g,o,none⟩) n c):=(HB1.out.below HD.out.below HB1.out.lt).cell 1;have k1:=(HR.out.below HD.out.below HR.out.lt).at_ i (by rw [HLN.out];exact hin)
  have hGd:=HG.out.below HD.out.below (Mx _);have HGD:=Mw hGd;obtain⟨x,hx⟩:∃ x,xs.getD i 0=x:=⟨_,rfl⟩;rw [hx] at k1;have hxN:x<4096:=by have:=HGL.out i;omega
  have hrN:r<2 ^ m:=by rw [HN.out,HRR.out];exact HPV.out i
  obtain⟨y,hy⟩:∃ y,gm m p a r=y:=⟨_,rfl⟩;have hyN:y<4096:=by rw [<- hy];have:=cD HF.out a r HA.out;rw [HN.out] at this;omega
  have hnew:y ^^^ x=ao m p a (xs.take (i+1)):=by
   rw [HST.out i (by rw [HLN.out];exact hin),hx,<- HRR.out,hy]
  obtain⟨r2,hr2⟩:∃ r2,y ^^^ x=r2:=⟨_,rfl⟩;have hr2N:r2<4096:=by rw [<- hr2,hnew];have:=HPV.out (i+1);omega
  have km:=fun k=>lw (wr.drewN k) gf m p b a r HF.out HP.out hm (HGD.out.drawn k) HA.out hrN
  have ka:=fun k=>oc (wr.drewN k) y x (by omega) (by omega)
  rw [hy] at km;rw [hr2] at ka hnew;have HNEW:=Mw hnew;clear hx hnew hr2 hGd hy hrN c0 c1 k0
  go_wp2
  go_quiet (first
   | (go_at_call 186;exact Calls.quiet_of (km _))
   | (go_at_call 184;exact Calls.quiet_of_same (ka _)))
  clear km ka
  go_wp2
  go_roundw
  case rel=>exact⟨i+1,r2,by go_num,rfl,by omega,by omega,by omega,HNEW,⟨HD.out.more _⟩⟩
  case measure=>simp [intOf];omega
end Go.Proofs.YtgccjgpdjkhpdaaGreat.B
