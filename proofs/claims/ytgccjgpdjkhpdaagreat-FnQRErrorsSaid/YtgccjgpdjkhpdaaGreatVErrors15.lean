import Derived.Test.YtgccjgpdjkhpdaaGreatVErrors9
import Derived.Test.YtgccjgpdjkhpdaaGreatVErrors12
import Derived.Test.YtgccjgpdjkhpdaaGreatVErrors28
import Derived.Test.YtgccjgpdjkhpdaaGreatVErrors40
open List renaming getD_eq_getElem?_getD→Mw,getElem?_range→Mx
/-! Own texts of this claim, part 15. -/
namespace Go.Proofs.YtgccjgpdjkhpdaaGreat.B
open Go.RowKit Go.Proofs.YtgccjgpdjkhpdaaGreatW.PrintWords Go.Proofs.YtgccjgpdjkhpdaaGreatW.PrintLast Go.Proofs.YtgccjgpdjkhpdaaGreatW.PrintMore
set_option linter.unusedVariables false
set_option linter.unusedSimpArgs false
theorem wP (x b:Nat)(hx:x<2147483648)(hb:b<64):oL (x:Int) (b:Int)=x.testBit b:=by
 unfold oL eZ;have e1:((x:Int)/2 ^ min ((b:Nat):Int).toNat (IntKind.bits .i64))=((x/2 ^ b:Nat):Int):=by
  rw [Int.toNat_natCast,show min b (IntKind.bits .i64)=b from Nat.min_eq_left (by show b<=64;omega),Int.natCast_ediv,Int.natCast_pow]
  rfl
 have hle:x/2 ^ b<=x:=Nat.div_le_self _ _;have e2:=pz (x/2 ^ b) 1 (by omega) (by omega);rw [e1,show (1:Int)=((1:Nat):Int) from rfl,e2,Nat.and_one_is_mod,Nat.testBit_eq_decide_div_mod_eq];by_cases h:x/2 ^ b%2=1
 ·rw [h];rfl
 rw [show x/2 ^ b%2=0 by omega];rfl
theorem mD {g h:Nat->Bool}:∀ n,(∀ k,k<n->g k=h k)->aJ g n=aJ h n:=by
 intro n
 induction n with
 | zero=>intro _;rfl
 | succ n ih=>intro e;rw [aJ,aJ,ih (fun k hk=>e k (by omega)),e n (by omega)]
theorem qp (x n:Nat)(hx:x<2 ^ n):aJ (fun k=>x.testBit (n-1-k)) n=x:=by
 have h:∀ k,k<=n->aJ (fun k=>x.testBit (n-1-k)) k=x/2 ^ (n-k):=by
  intro k
  induction k with
  | zero=>intro _;rw [aJ,Nat.sub_zero,Nat.div_eq_of_lt hx]
  | succ k ih=>
   intro hk;rw [aJ,ih (by omega),show n-k=(n-(k+1))+1 by omega,Nat.pow_succ,<- Nat.div_div_eq_div_mul,show n-1-k=n-(k+1) by omega,Nat.testBit_eq_decide_div_mod_eq];by_cases e:x/2 ^ (n-(k+1))%2=1
   ·rw [decide_eq_true e];show 2*(x/2 ^ (n-(k+1))/2)+1=_;omega
   rw [decide_eq_false e];show 2*(x/2 ^ (n-(k+1))/2)+0=_;omega
 have:=h n (Nat.le_refl _)
 rwa [Nat.sub_self,Nat.pow_zero,Nat.div_one] at this
theorem sX (n:Nat)(cf:Nat->Nat->Bool)(x y:Nat)(hx:x<n)(hy:y<n):fY (aK n cf n) x y=cf y x:=by
 unfold fY aK;rw [Mw,Mw,List.getElem?_map,Mx hy];simp only [Option.map_some,Option.getD_some];unfold ie;rw [List.getElem?_map,Mx hx];rfl
theorem C7 (n:Nat)(cf:Nat->Nat->Bool)(h1:1<=n)(h2:n<=1000):sp (aK n cf n) n:=by
 have hrow:∀ y,y<n->((aK n cf n).getD y []).length=n:=by
  intro y hy;unfold aK;rw [Mw,List.getElem?_map,Mx hy];simp [ie]
 exact⟨by simp [aK],hrow 0 (by omega),fun y hy=>by rw [hrow y hy];omega⟩
structure kG (F v:Nat)(f:Nat->Nat->Bool):Prop where
 fmt:∀ r c:Nat,r<17+4*v->c<17+4*v->∀ b:Nat,cI (17+4*(v:Int)) r c=b->f c r=F.testBit b
 ver:7<=v->∀ r t:Nat,r<6->t<3->f (17+4*v-11+t) r=(bS.getD (v-7) 0).testBit (r*3+t)
theorem C8 (F v:Nat)(hv:1<=v/\v<=40)(f:Nat->Nat->Bool)(h:kG F v f)(hF:F<32768):aJ (cW f) 15=F:=by
 have e:aJ (cW f) 15=aJ (fun k=>F.testBit (15-1-k)) 15:=by
  apply mD;intro k hk;unfold cW;by_cases h1:k<6
  ·rw [if_pos h1];exact h.fmt 8 k (by omega) (by omega) _ (by unfold cI;rw [if_neg (by omega),if_neg (by omega),if_neg (by omega),if_neg (by omega),if_pos (by omega)]<;>omega)
  rw [if_neg h1];by_cases h2:k=6
  ·subst h2;rw [if_pos rfl];exact h.fmt 8 7 (by omega) (by omega) _ (by unfold cI;rw [if_neg (by omega),if_neg (by omega),if_neg (by omega),if_pos (by omega)]<;>omega)
  rw [if_neg h2];by_cases h3:k=7
  ·subst h3;rw [if_pos rfl];exact h.fmt 8 8 (by omega) (by omega) _ (by unfold cI;rw [if_neg (by omega),if_neg (by omega),if_pos (by omega)]<;>omega)
  rw [if_neg h3];by_cases h4:k=8;rotate_left
  ·rw [if_neg h4];exact h.fmt (14-k) 8 (by omega) (by omega) _ (by unfold cI;rw [if_pos (by omega)]<;>omega)
  subst h4;rw [if_pos rfl];exact h.fmt 7 8 (by omega) (by omega) _ (by unfold cI;rw [if_neg (by omega),if_pos (by omega)]<;>omega)
 rw [e];exact qp F 15 hF
theorem C9 (F v:Nat)(hv:1<=v/\v<=40)(f:Nat->Nat->Bool)(h:kG F v f)(hF:F<32768):aJ (ew f (17+4*v)) 15=F:=by
 have e:aJ (ew f (17+4*v)) 15=aJ (fun k=>F.testBit (15-1-k)) 15:=by
  apply mD;intro k hk;unfold ew;by_cases h1:k<7;rotate_left
  ·rw [if_neg h1];exact h.fmt 8 (17+4*v-15+k) (by omega) (by omega) _ (by unfold cI;rw [if_neg (by omega),if_neg (by omega),if_neg (by omega),if_neg (by omega),if_neg (by omega),if_pos (by omega)]<;>omega)
  rw [if_pos h1];exact h.fmt (17+4*v-1-k) 8 (by omega) (by omega) _ (by unfold cI;rw [if_neg (by omega),if_neg (by omega),if_neg (by omega),if_neg (by omega),if_neg (by omega),if_neg (by omega),if_pos (by omega)]<;>omega)
 rw [e];exact qp F 15 hF
theorem sY (f:Nat->Nat->Bool)(n:Nat):∀ k,gG f n k=aJ (fun k=>f (n-9-k%3) (5-k/3)) k:=by
 intro k
 induction k with
 | zero=>rfl
 | succ k ih=>rw [gG,aJ,ih]
theorem wQ (i:Nat):bS.getD i 0<2 ^ 18:=by
 by_cases h:i<34
 ·exact Aj ⟨i,h⟩
 rw [Mw,List.getElem?_eq_none (by show 34<=i;omega)]
 decide
theorem Da (F v:Nat)(hv:1<=v/\v<=40)(f:Nat->Nat->Bool)(h:kG F v f)(h7:7<=v):gG f (17+4*v) 18=bS.getD (v-7) 0:=by
 rw [sY];have e:aJ (fun k=>f (17+4*v-9-k%3) (5-k/3)) 18=aJ (fun k=>(bS.getD (v-7) 0).testBit (18-1-k)) 18:=by
  apply mD;intro k hk;have:=h.ver h7 (5-k/3) (2-k%3) (by omega) (by omega);rw [show 17+4*v-11+(2-k%3)=17+4*v-9-k%3 by omega,show (5-k/3)*3+(2-k%3)=18-1-k by omega] at this;exact this
 rw [e];exact qp _ 18 (wQ _)
theorem Db:∀ v:Fin 34,oJ (v.val+7)=((bS.getD v.val 0:Nat):Int):=by decide +kernel
theorem Dc (F v:Nat)(hv:1<=v/\v<=40)(hF:F<32768)(cf:Nat->Nat->Bool)(h:∀ r c:Nat,r<17+4*v->c<17+4*v->kF (F:Int) v r c (cf r c)):kG F v (fun x y=>cf y x):=by
 refine⟨?_,?_⟩
 ·intro r c hr hc b hb;have:=CV (F:Int) v hv r c _ (h r c hr hc) (by omega) (by omega) (by rw [hb];omega)
  show cf r c=_;rw [this,hb,wP F b (by omega)];unfold cI at hb
  split at hb
  ·omega
  repeat (split at hb<;>first | omega | skip)
 intro h7 r t hr ht;have:=CY (F:Int) v ⟨h7,hv.2⟩ r t hr ht _ (h r (17+4*v-11+t) (by omega) (by omega));show cf r _=_;have hvb:=Db ⟨v-7,by omega⟩;simp only [show v-7+7=v by omega] at hvb;rw [this,hvb,wP _ _ (Nat.lt_trans (wQ _) (by decide)) (by omega)]
theorem kG.congr {F v:Nat}{f h:Nat->Nat->Bool}(P:kG F v f)(e:∀ x y,x<17+4*v->y<17+4*v->f x y=h x y)(hv:1<=v):kG F v h :=
 ⟨fun r c hr hc b hb=>(e c r hc hr).symm.trans (P.fmt r c hr hc b hb),fun h7 r t hr ht=>(e _ r (by omega) (by omega)).symm.trans (P.ver h7 r t hr ht)⟩
theorem wR (i:Nat)(h:i<=4294967296):wrap64 ((i:Int)+1)=((i+1:Nat):Int):=by unfold wrap64;omega
def Sq (n i:Nat)(x:List (List Bool)):Prop:=x.length=n/\∀ y,y<i->(x.getD y []).length=n
theorem Dd (x:List (List Bool))(i j:Nat)(r:List Bool)(hi:i<x.length):(x.set i r).getD j []=if i=j then r else x.getD j []:=by
 rw [Mw,Mw,List.getElem?_set];by_cases e:i=j
 ·subst e;simp [hi]
 simp [e]
theorem Sq.set {n i:Nat}{x:List (List Bool)}(h:Sq n i x)(j:Nat)(r:List Bool)(hj:j<n)(hr:r.length=n):Sq n i (x.set j r):=by
 refine⟨by rw [List.length_set,h.1],fun y hy=>?_⟩;rw [Dd _ _ _ _ (by rw [h.1];exact hj)]
 split
 ·exact hr
 exact h.2 y hy
theorem De (a:Nat)(h:a<256):F.pp.f (a:Int)=some ((1+a%40:Nat):Int):=by
 unfold F.pp.f;have e1:wrap64 (a:Int)=(a:Int):=by unfold wrap64;omega
 rw [e1,Int.tmod_eq_emod_of_nonneg (by omega)];have e2:wrap64 (1+(a:Int)%40)=((1+a%40:Nat):Int):=by unfold wrap64;omega
 rw [e2]
end Go.Proofs.YtgccjgpdjkhpdaaGreat.B
