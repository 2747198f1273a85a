import Derived.Test.YtgccjgpdjkhpdaaGreatVErrors3
import Derived.Test.YtgccjgpdjkhpdaaGreatVErrors14
open List renaming replicate→Mw,getD_eq_getElem?_getD→MG,replicate_zero→MK,append_nil→ML,length_replicate→MM,replicate_succ→MN
open Go.Proofs.YtgccjgpdjkhpdaaGreatW.PrintWords.Aside0 renaming mk→Mx
open Option renaming bind_some→My
open Int renaming toNat_natCast→Mz
open Bool renaming false_or→MA,and_true→MB,true_and→MC,false_and→ME,or_false→MF,and_false→MH,or_eq_true→MI,and_eq_true→MJ
open Nat renaming sub_self→MD
/-! Own texts of this claim, part 12. -/
namespace Go.Proofs.YtgccjgpdjkhpdaaGreat.B
open Go.RowKit Go.Proofs.YtgccjgpdjkhpdaaGreatW.PrintWords Go.Proofs.YtgccjgpdjkhpdaaGreatW.PrintLast Go.Proofs.YtgccjgpdjkhpdaaGreatW.PrintMore
set_option linter.unusedVariables false
set_option linter.unusedSimpArgs false
theorem bi (x:Int)(h0:-1000000<=x)(h1:x<=1000000000):wrap64 x=x:=by unfold wrap64;omega
theorem CH (cs:List Int)(r c:Int)(hl:cs.length<=20):∃ t:Int,Ev (fun k=>F.ah.f k cs r c) t:=by
 obtain⟨last,hlast⟩:∃ last,wrap64 ((cs.length:Int)-1)=last:=⟨_,rfl⟩;have HLAST:=Mx hlast;clear hlast;have H:∀ (d i:Nat),i+d=cs.length->∃ t:Int,Ev (fun k=>F.ah.l0 k cs r c last cs (cs.length:Int) i) t:=by
  intro d
  induction d with
  | zero=>
   intro i hi;exact⟨-1,Ev.step (f:=fun _=>some (-1)) (fun k=>by rw [F.ah.l0,if_neg (by omega)]) (Ev.now _)⟩
  | succ d ih=>
   intro i hi;obtain⟨t0,h0⟩:=ih (i+1) (by omega);have HW:=Mx (show wrap64 ((i:Int)+1)=((i+1:Nat):Int) by rw [bi _ (by omega) (by omega)];rfl)
   obtain⟨a,ha⟩:∃ a,rd cs i=a:=⟨_,rfl⟩;have HA:=Mx ha;clear ha;have H1:∀ (e j:Nat),j+e=cs.length->∃ t:Int,Ev (fun k=>F.ah.l1 k cs r c last i a cs (cs.length:Int) i cs (cs.length:Int) j) t:=by
    intro e
    induction e with
    | zero=>
     intro j hj;exact⟨t0,Ev.step (fun k=>by rw [F.ah.l1,if_neg (by omega),HW.out]) h0⟩
    | succ e ih1=>
     intro j hj;obtain⟨t1,h1⟩:=ih1 (j+1) (by omega);have HWJ:=Mx (show wrap64 ((j:Int)+1)=((j+1:Nat):Int) by rw [bi _ (by omega) (by omega)];rfl)
     obtain⟨b,hb⟩:∃ b,rd cs j=b:=⟨_,rfl⟩;have HBB:=Mx hb;clear hb;have H3:∀ f:Bool,∃ t:Int,Ev (fun k=>F.ah.j3 k cs r c last i a b cs (cs.length:Int) i cs (cs.length:Int) j f) t:=by
      intro f;cases f with
      | true=>exact⟨t1,Ev.step (fun k=>by rw [F.ah.j3,if_pos rfl,HWJ.out]) h1⟩
      | false=>
       obtain⟨u,hu⟩:∃ u,F.dB.f r c a b=some u:=⟨_,rfl⟩;by_cases h2:u<=2
       ·exact⟨u,Ev.step (f:=fun _=>some u) (fun k=>by rw [F.ah.j3,if_neg (by simp),hu,My,if_pos h2]) (Ev.now _)⟩
       exact⟨t1,Ev.step (fun k=>by rw [F.ah.j3,if_neg (by simp),hu,My,if_neg h2,HWJ.out]) h1⟩
     have hhead:∀ k,F.ah.l1 (k+1) cs r c last i a cs (cs.length:Int) i cs (cs.length:Int) j=(if (i:Int)=0 then (if (j:Int)=0 then (F.ah.j3 k cs r c last i a b cs (cs.length:Int) i cs (cs.length:Int) j true) else (if (j:Int)=last then (F.ah.j3 k cs r c last i a b cs (cs.length:Int) i cs (cs.length:Int) j true) else (if (i:Int)=last then (F.ah.j3 k cs r c last i a b cs (cs.length:Int) i cs (cs.length:Int) j ((j:Int)==0)) else (F.ah.j3 k cs r c last i a b cs (cs.length:Int) i cs (cs.length:Int) j false)))) else (if (i:Int)=last then (F.ah.j3 k cs r c last i a b cs (cs.length:Int) i cs (cs.length:Int) j ((j:Int)==0)) else (F.ah.j3 k cs r c last i a b cs (cs.length:Int) i cs (cs.length:Int) j false))):=by
      intro k;rw [F.ah.l1,if_pos (by omega),if_pos (by omega),if_pos (by omega),HBB.out]
     by_cases g1:(i:Int)=0;rotate_left
     ·by_cases g4:(i:Int)=last;rotate_left
      ·obtain⟨t,ht⟩:=H3 false;exact⟨t,Ev.step (fun k=>by rw [hhead,if_neg g1,if_neg g4]) ht⟩
      obtain⟨t,ht⟩:=H3 ((j:Int)==0);exact⟨t,Ev.step (fun k=>by rw [hhead,if_neg g1,if_pos g4]) ht⟩
     by_cases g2:(j:Int)=0
     ·obtain⟨t,ht⟩:=H3 true;exact⟨t,Ev.step (fun k=>by rw [hhead,if_pos g1,if_pos g2]) ht⟩
     by_cases g3:(j:Int)=last
     ·obtain⟨t,ht⟩:=H3 true;exact⟨t,Ev.step (fun k=>by rw [hhead,if_pos g1,if_neg g2,if_pos g3]) ht⟩
     by_cases g4:(i:Int)=last;rotate_left
     ·obtain⟨t,ht⟩:=H3 false;exact⟨t,Ev.step (fun k=>by rw [hhead,if_pos g1,if_neg g2,if_neg g3,if_neg g4]) ht⟩
     obtain⟨t,ht⟩:=H3 ((j:Int)==0);exact⟨t,Ev.step (fun k=>by rw [hhead,if_pos g1,if_neg g2,if_neg g3,if_pos g4]) ht⟩
   obtain⟨t1,h1⟩:=H1 cs.length 0 (by omega);have hhead:∀ k,F.ah.l0 (k+1) cs r c last cs (cs.length:Int) i=(if r<(wrap64 (a-2)) then (F.ah.j1 k cs r c last i a cs (cs.length:Int) i true) else (F.ah.j1 k cs r c last i a cs (cs.length:Int) i (decide (r>(wrap64 (a+2)))))):=by
    intro k;rw [F.ah.l0,if_pos (by omega),if_pos (by omega),if_pos (by omega),HA.out]
   have HJ:∀ f:Bool,∃ t:Int,Ev (fun k=>F.ah.j1 k cs r c last i a cs (cs.length:Int) i f) t:=by
    intro f;cases f with
    | true=>exact⟨t0,Ev.step (fun k=>by rw [F.ah.j1,if_pos rfl,HW.out]) h0⟩
    | false=>exact⟨t1,Ev.step (fun k=>by rw [F.ah.j1,if_neg (by simp)];rfl) h1⟩
   by_cases g1:r<wrap64 (a-2)
   ·obtain⟨t,ht⟩:=HJ true;exact⟨t,Ev.step (fun k=>by rw [hhead,if_pos g1]) ht⟩
   obtain⟨t,ht⟩:=HJ (decide (r>wrap64 (a+2)));exact⟨t,Ev.step (fun k=>by rw [hhead,if_neg g1]) ht⟩
 obtain⟨t,ht⟩:=H cs.length 0 (by omega);exact⟨t,Ev.congr (fun k=>by rw [F.ah.f,HLAST.out];rfl) ht⟩
def ix (v n r c al:Int):Bool :=
 (decide (r<=8) && (decide (c<=8) || decide (c≥n-8))) || (decide (r≥n-8) && decide (c<=8)) || decide (r=6) || decide (c=6) ||
  (decide (v≥7) && ((decide (r<=5) && decide (c≥n-11)) || (decide (c<=5) && decide (r≥n-11)))) || decide (al≥0)
theorem mC (v:Int)(h:1<=v/\v<=40):F.dI.f v=some (17+4*v):=by
 unfold F.dI.f;rw [bi (4*v) (by omega) (by omega),bi _ (by omega) (by omega)]
theorem wK (v n r c al:Int)(cs:List Int)(hv:1<=v/\v<=40)(hn:n=17+4*v)(hal:Ev (fun k=>F.ah.f k cs r c) al):Ev (fun k=>F.az.f k v cs r c) (ix v n r c al):=by
 have hd:=mC v hv;rw [<- hn] at hd;have h8:wrap64 (n-8)=n-8:=bi _ (by omega) (by omega);have h11:wrap64 (n-11)=n-11:=bi _ (by omega) (by omega);have H2:∀ b:Bool,Ev (fun k=>F.az.j2 k v cs r c n b) (b || (decide (v≥7) && ((decide (r<=5) && decide (c≥n-11)) || (decide (c<=5) && decide (r≥n-11)))) || decide (al≥0)):=by
  intro b;have hend:∀ k:Nat->Option Bool,Ev (fun k=>(F.ah.f k cs r c).bind fun t=>some (decide (t≥0))) (decide (al≥0)):=fun _=>Ev.bind hal (Ev.now _)
  cases b with
  | true=>exact Ev.step (f:=fun _=>some true) (fun k=>by rw [F.az.j2,if_pos rfl]) (Ev.now _)
  | false=>
   by_cases g1:v≥7;rotate_left
   ·simp only [g1,decide_false,ME,MF,MA];exact Ev.step (fun k=>by rw [F.az.j2,if_neg (by simp),if_neg g1]) (hend (fun _=>none))
   by_cases g2:r<=5;rotate_left
   ·by_cases g4:c<=5;rotate_left
    ·simp only [g1,g2,g4,decide_true,decide_false,MB,MH,MF,MA,MC,ME];exact Ev.step (fun k=>by rw [F.az.j2,if_neg (by simp),if_pos g1,if_neg g2,if_neg g4]) (hend (fun _=>none))
    by_cases g5:r≥n-11;rotate_left
    ·simp only [g1,g2,g4,g5,decide_true,decide_false,MB,MH,MF,MA,MC,ME];exact Ev.step (fun k=>by rw [F.az.j2,if_neg (by simp),if_pos g1,if_neg g2,if_pos g4,h11,if_neg g5]) (hend (fun _=>none))
    simp only [g1,g2,g4,g5,decide_true,decide_false,MB,Bool.true_or,Bool.or_true,MA,MC,ME];exact Ev.step (f:=fun _=>some true) (fun k=>by rw [F.az.j2,if_neg (by simp),if_pos g1,if_neg g2,if_pos g4,h11,if_pos g5]) (Ev.now _)
   by_cases g3:c≥n-11
   ·simp only [g1,g2,g3,decide_true,MB,Bool.true_or,MA,MC];exact Ev.step (f:=fun _=>some true) (fun k=>by rw [F.az.j2,if_neg (by simp),if_pos g1,if_pos g2,h11,if_pos g3]) (Ev.now _)
   by_cases g4:c<=5;rotate_left
   ·simp only [g1,g2,g3,g4,decide_true,decide_false,MB,MH,MF,MA,MC,ME];exact Ev.step (fun k=>by rw [F.az.j2,if_neg (by simp),if_pos g1,if_pos g2,h11,if_neg g3,if_neg g4]) (hend (fun _=>none))
   by_cases g5:r≥n-11
   ·simp only [g1,g2,g4,g5,decide_true,MB,Bool.true_or,Bool.or_true,MA,MC];exact Ev.step (f:=fun _=>some true) (fun k=>by rw [F.az.j2,if_neg (by simp),if_pos g1,if_pos g2,h11,if_neg g3,if_pos g4,if_pos g5]) (Ev.now _)
   simp only [g1,g2,g3,g4,g5,decide_true,decide_false,MB,MH,MF,MA,MC];exact Ev.step (fun k=>by rw [F.az.j2,if_neg (by simp),if_pos g1,if_pos g2,h11,if_neg g3,if_pos g4,if_neg g5]) (hend (fun _=>none))
 have H1:∀ b:Bool,Ev (fun k=>F.az.j1 k v cs r c n b) ((b || decide (r=6) || decide (c=6)) || (decide (v≥7) && ((decide (r<=5) && decide (c≥n-11)) || (decide (c<=5) && decide (r≥n-11)))) || decide (al≥0)):=by
  intro b;cases b with
  | true=>exact Ev.step (fun k=>by rw [F.az.j1,if_pos rfl]) (H2 true)
  | false=>
   by_cases g:r=6;rotate_left
   ·have:=H2 (c==6);rw [show (false || decide (r=6) || decide (c=6))=(c==6) from by simp [g];rfl]
    exact Ev.step (fun k=>by rw [F.az.j1,if_neg (by simp),if_neg g]) this
   have:=H2 (r==6);rw [show (r==6)=true from beq_iff_eq.2 g] at this;rw [show (false || decide (r=6) || decide (c=6))=true from by simp [g]];exact Ev.step (fun k=>by rw [F.az.j1,if_neg (by simp),if_pos g,show (r==6)=true from beq_iff_eq.2 g]) this
 have H0:∀ b:Bool,Ev (fun k=>F.az.j0 k v cs r c n b) ((b || (decide (r≥n-8) && decide (c<=8)) || decide (r=6) || decide (c=6)) || (decide (v≥7) && ((decide (r<=5) && decide (c≥n-11)) || (decide (c<=5) && decide (r≥n-11)))) || decide (al≥0)):=by
  intro b;cases b with
  | true=>exact Ev.step (fun k=>by rw [F.az.j0,if_pos rfl]) (H2 true)
  | false=>
   by_cases g:r≥n-8;rotate_left
   ·have:=H1 false;rw [show (false || (decide (r≥n-8) && decide (c<=8)))=false from by simp [g]];exact Ev.step (fun k=>by rw [F.az.j0,if_neg (by simp),h8,if_neg g]) this
   have:=H1 (decide (c<=8));rw [show (false || (decide (r≥n-8) && decide (c<=8)))=decide (c<=8) from by simp [g]];exact Ev.step (fun k=>by rw [F.az.j0,if_neg (by simp),h8,if_pos g]) this
 unfold ix;by_cases g1:r<=8;rotate_left
 ·have:=H0 false;rw [show (decide (r<=8) && (decide (c<=8) || decide (c≥n-8)))=false from by simp [g1]];exact Ev.congr (fun k=>by rw [F.az.f,hd,My,if_neg g1]) this
 by_cases g2:c<=8
 ·have:=H0 true;rw [show (decide (r<=8) && (decide (c<=8) || decide (c≥n-8)))=true from by simp [g1,g2]];exact Ev.congr (fun k=>by rw [F.az.f,hd,My,if_pos g1,if_pos g2]) this
 have:=H0 (decide (c≥n-8));rw [show (decide (r<=8) && (decide (c<=8) || decide (c≥n-8)))=decide (c≥n-8) from by simp [g1,g2]];exact Ev.congr (fun k=>by rw [F.az.f,hd,My,if_pos g1,if_neg g2,h8]) this
def cI (n r c:Int):Int :=
 if c=8/\r<=5 then r else if c=8/\r=7 then 6 else if c=8/\r=8 then 7 else if r=8/\c=7 then 8 else if r=8/\c<=5 then 14-c
 else if r=8/\c≥n-8 then n-1-c else if c=8/\r≥n-7 then r-n+15 else -1
theorem sU (n r c:Int)(hn:21<=n/\n<=177)(hr:0<=r/\r<n)(hc:0<=c/\c<n):Ev (fun k=>F.am.f k n r c) (cI n r c):=by
 have w1:wrap64 (14-c)=14-c:=bi _ (by omega) (by omega);have w2:wrap64 (n-8)=n-8:=bi _ (by omega) (by omega);have w3:wrap64 (n-1)=n-1:=bi _ (by omega) (by omega);have w4:wrap64 (n-1-c)=n-1-c:=bi _ (by omega) (by omega);have w5:wrap64 (n-7)=n-7:=bi _ (by omega) (by omega);have w6:wrap64 (r-n)=r-n:=bi _ (by omega) (by omega);have w7:wrap64 (r-n+15)=r-n+15:=bi _ (by omega) (by omega);have W1:=Mx w1;have W2:=Mx w2;have W3:=Mx w3;have W4:=Mx w4;have W5:=Mx w5;have W6:=Mx w6;have W7:=Mx w7;clear w1 w2 w3 w4 w5 w6 w7;have J5:∀ b:Bool,Ev (fun k=>F.am.j5 k n r c b) (if b=true then n-1-c else if c=8/\r≥n-7 then r-n+15 else -1):=by
  intro b;cases b with
  | true=>exact Ev.step (f:=fun _=>some (n-1-c)) (fun k=>by rw [F.am.j5,if_pos rfl,W3.out,W4.out]) (Ev.now _)
  | false=>
   by_cases g1:c=8;rotate_left
   ·rw [if_neg (by simp),if_neg (fun h=>g1 h.1)];exact Ev.step (f:=fun _=>some (-1)) (fun k=>by rw [F.am.j5,if_neg (by simp),if_neg g1]) (Ev.now _)
   by_cases g2:r≥n-7;rotate_left
   ·rw [if_neg (by simp),if_neg (fun h=>g2 h.2)];exact Ev.step (f:=fun _=>some (-1)) (fun k=>by rw [F.am.j5,if_neg (by simp),if_pos g1,W5.out,if_neg g2]) (Ev.now _)
   rw [if_neg (by simp),if_pos ⟨g1,g2⟩];exact Ev.step (f:=fun _=>some (r-n+15)) (fun k=>by rw [F.am.j5,if_neg (by simp),if_pos g1,W5.out,if_pos g2,W6.out,W7.out]) (Ev.now _)
 have J4:∀ b:Bool,Ev (fun k=>F.am.j4 k n r c b) (if b=true then 14-c else if r=8/\c≥n-8 then n-1-c else if c=8/\r≥n-7 then r-n+15 else -1):=by
  intro b;cases b with
  | true=>exact Ev.step (f:=fun _=>some (14-c)) (fun k=>by rw [F.am.j4,if_pos rfl,W1.out]) (Ev.now _)
  | false=>
   rw [if_neg (by simp)];by_cases g1:r=8;rotate_left
   ·have:=J5 false;rw [if_neg (by simp)] at this;rw [if_neg (fun h=>g1 h.1)];exact Ev.step (fun k=>by rw [F.am.j4,if_neg (by simp),if_neg g1]) this
   have:=J5 (decide (c≥n-8));simp only [decide_eq_true_eq] at this;simp only [show (r=8/\c≥n-8)↔(c≥n-8) from ⟨fun h=>h.2,fun h=>⟨g1,h⟩⟩];exact Ev.step (fun k=>by rw [F.am.j4,if_neg (by simp),if_pos g1,W2.out]) this
 have J3:∀ b:Bool,Ev (fun k=>F.am.j3 k n r c b) (if b=true then 8 else if r=8/\c<=5 then 14-c else if r=8/\c≥n-8 then n-1-c else if c=8/\r≥n-7 then r-n+15 else -1):=by
  intro b;cases b with
  | true=>exact Ev.step (f:=fun _=>some 8) (fun k=>by rw [F.am.j3,if_pos rfl]) (Ev.now _)
  | false=>
   rw [if_neg (by simp)];by_cases g1:r=8;rotate_left
   ·have:=J4 false;rw [if_neg (by simp)] at this;rw [if_neg (fun h=>g1 h.1)];exact Ev.step (fun k=>by rw [F.am.j3,if_neg (by simp),if_neg g1]) this
   have:=J4 (decide (c<=5));simp only [decide_eq_true_eq] at this;simp only [show (r=8/\c<=5)↔(c<=5) from ⟨fun h=>h.2,fun h=>⟨g1,h⟩⟩];exact Ev.step (fun k=>by rw [F.am.j3,if_neg (by simp),if_pos g1]) this
 have J2:∀ b:Bool,Ev (fun k=>F.am.j2 k n r c b) (if b=true then 7 else if r=8/\c=7 then 8 else if r=8/\c<=5 then 14-c else if r=8/\c≥n-8 then n-1-c else if c=8/\r≥n-7 then r-n+15 else -1):=by
  intro b;cases b with
  | true=>exact Ev.step (f:=fun _=>some 7) (fun k=>by rw [F.am.j2,if_pos rfl]) (Ev.now _)
  | false=>
   rw [if_neg (by simp)];by_cases g1:r=8;rotate_left
   ·have:=J3 false;rw [if_neg (by simp)] at this;rw [if_neg (fun h=>g1 h.1)];exact Ev.step (fun k=>by rw [F.am.j2,if_neg (by simp),if_neg g1]) this
   have:=J3 (c==7);simp only [beq_iff_eq] at this;simp only [show (r=8/\c=7)↔(c=7) from ⟨fun h=>h.2,fun h=>⟨g1,h⟩⟩];exact Ev.step (fun k=>by rw [F.am.j2,if_neg (by simp),if_pos g1]) this
 have J1:∀ b:Bool,Ev (fun k=>F.am.j1 k n r c b) (if b=true then 6 else if c=8/\r=8 then 7 else if r=8/\c=7 then 8 else if r=8/\c<=5 then 14-c else if r=8/\c≥n-8 then n-1-c else if c=8/\r≥n-7 then r-n+15 else -1):=by
  intro b;cases b with
  | true=>exact Ev.step (f:=fun _=>some 6) (fun k=>by rw [F.am.j1,if_pos rfl]) (Ev.now _)
  | false=>
   rw [if_neg (by simp)];by_cases g1:c=8;rotate_left
   ·have:=J2 false;rw [if_neg (by simp)] at this;rw [if_neg (fun h=>g1 h.1)];exact Ev.step (fun k=>by rw [F.am.j1,if_neg (by simp),if_neg g1]) this
   have:=J2 (r==8);simp only [beq_iff_eq] at this;simp only [show (c=8/\r=8)↔(r=8) from ⟨fun h=>h.2,fun h=>⟨g1,h⟩⟩];exact Ev.step (fun k=>by rw [F.am.j1,if_neg (by simp),if_pos g1]) this
 have J0:∀ b:Bool,Ev (fun k=>F.am.j0 k n r c b) (if b=true then r else if c=8/\r=7 then 6 else if c=8/\r=8 then 7 else if r=8/\c=7 then 8 else if r=8/\c<=5 then 14-c else if r=8/\c≥n-8 then n-1-c else if c=8/\r≥n-7 then r-n+15 else -1):=by
  intro b;cases b with
  | true=>exact Ev.step (f:=fun _=>some r) (fun k=>by rw [F.am.j0,if_pos rfl]) (Ev.now _)
  | false=>
   rw [if_neg (by simp)];by_cases g1:c=8;rotate_left
   ·have:=J1 false;rw [if_neg (by simp)] at this;rw [if_neg (fun h=>g1 h.1)];exact Ev.step (fun k=>by rw [F.am.j0,if_neg (by simp),if_neg g1]) this
   have:=J1 (r==7);simp only [beq_iff_eq] at this;simp only [show (c=8/\r=7)↔(r=7) from ⟨fun h=>h.2,fun h=>⟨g1,h⟩⟩];exact Ev.step (fun k=>by rw [F.am.j0,if_neg (by simp),if_pos g1]) this
 unfold cI;by_cases g1:c=8;rotate_left
 ·have:=J0 false;rw [if_neg (by simp)] at this;rw [if_neg (fun h=>g1 h.1)];exact Ev.congr (fun k=>by rw [F.am.f,if_neg g1]) this
 have:=J0 (decide (r<=5));simp only [decide_eq_true_eq] at this;simp only [show (c=8/\r<=5)↔(r<=5) from ⟨fun h=>h.2,fun h=>⟨g1,h⟩⟩];exact Ev.congr (fun k=>by rw [F.am.f,if_pos g1]) this
theorem wL (v n r c fm al:Int)(cs:List Int)(hv:1<=v/\v<=40)(hn:n=17+4*v)(hr:0<=r/\r<n)(hc:0<=c/\c<n)(b:Int)(hb:cI n r c=b)(hb0:0<=b) :
  Ev (fun k=>F.aH.f k v fm cs r c) (Go.bits .and .i64 (eZ .i64 fm b) 1==1):=by
 have hd:=mC v hv;rw [<- hn] at hd;have hf:=sU n r c (by omega) hr hc;rw [hb] at hf;refine Ev.congr (fun k=>by rw [F.aH.f,hd,My]) (Ev.bind hf ?_);exact Ev.congr (f:=fun _=>some (Go.bits .and .i64 (eZ .i64 fm b) 1==1)) (fun k=>by rw [if_pos (by omega),if_pos hb0]) (Ev.now _)
theorem CI (v n r c al:Int)(hr:0<=r/\r<n)(hc:0<=c/\c<n)(h:0<=cI n r c):ix v n r c al=true:=by
 unfold cI at h;have:(r<=8/\(c<=8\/c≥n-8))\/(r≥n-8/\c<=8):=by
  repeat' split at h
  all_goals omega
 unfold ix;rcases this with⟨h1,h2 | h2⟩ | ⟨h1,h2⟩
 ·simp [h1,h2]
 ·simp [h1,h2]
 simp [h1,h2]
def oJ (v:Nat):Int:=(F.fJ.f 40 v).getD 0
set_option maxRecDepth 100000 in
theorem CJ:∀ v:Fin 41,F.fJ.f 40 (v.val:Nat)=some (oJ v.val):=by decide +kernel
theorem CK (v:Nat)(h:v<=40):Ev (fun k=>F.fJ.f k v) (oJ v):=Ev.of (F.fJ.mono v) (CJ ⟨v,by omega⟩)
theorem sV (a b c d:Int)(ha:-1000<=a/\a<=1000)(hb:-1000<=b/\b<=1000)(hc:-1000<=c/\c<=1000)(hd:-1000<=d/\d<=1000):∃ t,F.dB.f a b c d=some t/\((a-c<=4/\c-a<=4/\b-d<=4/\d-b<=4)->t<=4):=by
 refine⟨_,rfl,fun h=>?_⟩;rw [bi (a-c) (by omega) (by omega),bi (c-a) (by omega) (by omega),bi (b-d) (by omega) (by omega),bi (d-b) (by omega) (by omega)];unfold mx
 repeat' split
 all_goals omega
theorem CL (a b c:Int)(h:¬ mn (mn a b) c<=4):¬ a<=4/\¬ b<=4/\¬ c<=4:=by
 unfold mn at h
 repeat' split at h
 all_goals omega
theorem CM (r c:Int)(h1:r<=8)(h2:c<=8):(r<=7/\c<=7)\/(c=8/\r<=5)\/r=6\/(c=8/\r=7)\/(c=8/\r=8)\/(r=8/\c=7)\/c=6\/(r=8/\c<=5):=by omega
theorem CN (n r c:Int)(h1:r<=8)(h2:c≥n-8):(r<=7/\c≥n-8)\/(r=8/\c≥n-8):=by omega
theorem CO (n r c:Int)(h1:r≥n-8)(h2:c<=8):(r≥n-8/\c<=7)\/(c=8/\r≥n-7)\/(r=n-8/\c=8):=by omega
theorem CP (v n r c al:Int)(hn:21<=n)(hr:0<=r/\r<n)(hc:0<=c/\c<n)(hf:¬ 0<=cI n r c)(hg:ix v n r c al=true)(g2:¬ al≥0)(g3:¬ r=6)(g4:¬ c=6)
  (m1:¬ (r<=7/\c<=7)) (m2:¬ (r<=7/\c≥n-8)) (m3:¬ (r≥n-8/\c<=7)) (hnc:¬ (r=n-8/\c=8)):(r<=5/\c≥n-11)\/(c<=5/\r≥n-11):=by
 have f1:¬ (c=8/\r<=5):=fun h=>hf (by unfold cI;rw [if_pos h];exact hr.1)
 have f2:¬ (c=8/\r=7):=fun h=>hf (by unfold cI;rw [if_neg f1,if_pos h];decide)
 have f3:¬ (c=8/\r=8):=fun h=>hf (by unfold cI;rw [if_neg f1,if_neg f2,if_pos h];decide)
 have f4:¬ (r=8/\c=7):=fun h=>hf (by unfold cI;rw [if_neg f1,if_neg f2,if_neg f3,if_pos h];decide)
 have f5:¬ (r=8/\c<=5):=fun h=>hf (by unfold cI;rw [if_neg f1,if_neg f2,if_neg f3,if_neg f4,if_pos h];have:=h.2;omega)
 have f6:¬ (r=8/\c≥n-8):=fun h=>hf (by unfold cI;rw [if_neg f1,if_neg f2,if_neg f3,if_neg f4,if_neg f5,if_pos h];have:=hc.2;omega)
 have f7:¬ (c=8/\r≥n-7):=fun h=>hf (by unfold cI;rw [if_neg f1,if_neg f2,if_neg f3,if_neg f4,if_neg f5,if_neg f6,if_pos h];have:=h.2;omega)
 unfold ix at hg;simp only [MI,MJ,decide_eq_true_eq] at hg;rcases hg with ((((h | h) | h) | h) | h) | h
 ·rcases h with⟨h1,h2 | h2⟩;rotate_left
  ·rcases CN n r c h1 h2 with h | h
   ·exact absurd h m2
   exact absurd h f6
  rcases CM r c h1 h2 with h | h | h | h | h | h | h | h
  ·exact absurd h m1
  ·exact absurd h f1
  ·exact absurd h g3
  ·exact absurd h f2
  ·exact absurd h f3
  ·exact absurd h f4
  ·exact absurd h g4
  exact absurd h f5
 ·rcases CO n r c h.1 h.2 with h | h | h
  ·exact absurd h m3
  ·exact absurd h f7
  exact absurd h hnc
 ·exact absurd h g3
 ·exact absurd h g4
 ·exact h.2
 exact absurd h g2
set_option maxHeartbeats 1000000 in
theorem CQ (v:Nat)(n r c fm al:Int)(cs:List Int)(hv:1<=v/\v<=40)(hn:n=17+4*(v:Int))(hr:0<=r/\r<n)(hc:0<=c/\c<n)(hal:Ev (fun k=>F.ah.f k cs r c) al)(hg:ix v n r c al=true) :
  ∃ b,Ev (fun k=>F.aH.f k v fm cs r c) b:=by
 by_cases hf:0<=cI n r c
 ·exact⟨_,wL v n r c fm al cs (by omega) hn hr hc _ rfl hf⟩
 have hd:=mC v (by omega);rw [<- hn] at hd;have hfr:=sU n r c (by omega) hr hc;have w8:wrap64 (n-8)=n-8:=bi _ (by omega) (by omega);have w4:wrap64 (n-4)=n-4:=bi _ (by omega) (by omega);obtain⟨t1,h1,l1⟩:=sV r c 3 3 (by omega) (by omega) (by omega) (by omega);obtain⟨t2,h2,l2⟩:=sV r c 3 (n-4) (by omega) (by omega) (by omega) (by omega);obtain⟨t3,h3,l3⟩:=sV r c (n-4) 3 (by omega) (by omega) (by omega) (by omega);have J0:∀ f:Bool,(f=false->¬ (r=n-8/\c=8))->∃ b,Ev (fun k=>F.aH.j0 k v cs r c n f) b:=by
  intro f hfl;cases f with
  | true=>exact⟨true,Ev.step (f:=fun _=>some true) (fun k=>by rw [F.aH.j0,if_pos rfl]) (Ev.now _)⟩
  | false=>
   have hnc:=hfl rfl;have hh:∀ k,F.aH.j0 (k+1) v cs r c n false=(if (mn (mn t1 t2) t3)<=4 then (if (mn (mn t1 t2) t3)=2 then (some false) else (some ((mn (mn t1 t2) t3) != 4))) else ((F.ah.f k cs r c).bind fun t138=>(if t138≥0 then (some (t138 != 1)) else (if r=6 then (F.aH.j1 k v r c n true) else (F.aH.j1 k v r c n (c==6)))))):=by
    intro k;rw [F.aH.j0,if_neg (by simp),w4,h1,My,h2,My,h3,My]
   by_cases g1:mn (mn t1 t2) t3<=4
   ·by_cases g2:mn (mn t1 t2) t3=2
    ·exact⟨false,Ev.step (f:=fun _=>some false) (fun k=>by rw [hh,if_pos g1,if_pos g2]) (Ev.now _)⟩
    exact⟨_,Ev.step (f:=fun _=>some (mn (mn t1 t2) t3 != 4)) (fun k=>by rw [hh,if_pos g1,if_neg g2]) (Ev.now _)⟩
   have hm:=CL _ _ _ g1;have hj1:∃ b,Ev (fun k=>F.aH.j1 k v r c n true) b:=⟨_,Ev.step (f:=fun _=>some ((Int.tmod (wrap64 (r+c)) 2)==0)) (fun k=>by rw [F.aH.j1,if_pos rfl]) (Ev.now _)⟩
   suffices hS:∃ b,Ev (fun k=>if al≥0 then (some (al != 1)) else (if r=6 then (F.aH.j1 k v r c n true) else (F.aH.j1 k v r c n (c==6)))) b by
    obtain⟨b,hb⟩:=hS;exact⟨b,Ev.step (fun k=>by rw [hh,if_neg g1]) (Ev.bind hal hb)⟩
   by_cases g2:al≥0
   ·exact⟨_,Ev.congr (f:=fun _=>some (al != 1)) (fun k=>by rw [if_pos g2]) (Ev.now _)⟩
   by_cases g3:r=6
   ·obtain⟨b,hb⟩:=hj1;exact⟨b,Ev.congr (fun k=>by rw [if_neg g2,if_pos g3]) hb⟩
   by_cases g4:c=6
   ·obtain⟨b,hb⟩:=hj1;exact⟨b,Ev.congr (fun k=>by rw [if_neg g2,if_neg g3,show (c==6)=true from beq_iff_eq.2 g4]) hb⟩
   have key:(r<=5/\c≥n-11)\/(c<=5/\r≥n-11):=by
    have m1:¬ (r<=7/\c<=7):=fun h=>hm.1 (l1 ⟨by omega,by omega,by omega,by omega⟩)
    have m2:¬ (r<=7/\c≥n-8):=fun h=>hm.2.1 (l2 ⟨by omega,by omega,by omega,by omega⟩)
    have m3:¬ (r≥n-8/\c<=7):=fun h=>hm.2.2 (l3 ⟨by omega,by omega,by omega,by omega⟩)
    exact CP v n r c al (by omega) hr hc hf hg g2 g3 g4 m1 m2 m3 hnc
   have hvr:=CK v (by omega);have hb6:(c==6)=false:=beq_eq_false_iff_ne.2 g4;by_cases g5:r<c
   ·have e1:wrap64 (wrap64 (wrap64 (wrap64 (r*3)+c)-n)+11)=r*3+c-n+11:=by rw [bi (r*3) (by omega) (by omega),bi (r*3+c) (by omega) (by omega),bi (r*3+c-n) (by omega) (by omega),bi (r*3+c-n+11) (by omega) (by omega)]
    have hsh:0<=r*3+c-n+11:=by omega
    refine⟨_,Ev.congr (fun k=>by rw [if_neg g2,if_neg g3,hb6]) (Ev.step (fun k=>by rw [F.aH.j1,if_neg (by simp),if_pos g5,e1]) (Ev.bind hvr (Ev.congr (fun k=>by rw [if_pos hsh]) (Ev.now _))))⟩
   have e1:wrap64 (wrap64 (wrap64 (wrap64 (c*3)+r)-n)+11)=c*3+r-n+11:=by rw [bi (c*3) (by omega) (by omega),bi (c*3+r) (by omega) (by omega),bi (c*3+r-n) (by omega) (by omega),bi (c*3+r-n+11) (by omega) (by omega)]
   have hsh:0<=c*3+r-n+11:=by omega
   refine⟨_,Ev.congr (fun k=>by rw [if_neg g2,if_neg g3,hb6]) (Ev.step (fun k=>by rw [F.aH.j1,if_neg (by simp),if_neg g5,e1]) (Ev.bind hvr (Ev.congr (fun k=>by rw [if_pos hsh]) (Ev.now _))))⟩
 by_cases g1:r=n-8;rotate_left
 ·obtain⟨b,hb⟩:=J0 false (fun _ h=>g1 h.1);exact⟨b,Ev.congr (fun k=>by rw [F.aH.f,hd,My]) (Ev.bind hfr (Ev.congr (fun k=>by rw [if_neg hf,w8,if_neg g1]) hb))⟩
 obtain⟨b,hb⟩:=J0 (c==8) (fun h=>fun hh=>by simp [hh.2] at h);exact⟨b,Ev.congr (fun k=>by rw [F.aH.f,hd,My]) (Ev.bind hfr (Ev.congr (fun k=>by rw [if_neg hf,w8,if_pos g1]) hb))⟩
def dP (v:Nat):List Int:=(F.aX.f 60 v).getD []
set_option maxRecDepth 100000 in
theorem CR:∀ v:Fin 40,F.aX.f 60 ((v.val+1:Nat):Int)=some (dP (v.val+1))/\(dP (v.val+1)).length<=20:=by decide +kernel
theorem qh (v:Nat)(h:1<=v/\v<=40):Ev (fun k=>F.aX.f k v) (dP v)/\(dP v).length<=20:=by
 obtain⟨h1,h2⟩:=CR ⟨v-1,by omega⟩;rw [show v-1+1=v by omega] at h1 h2;exact⟨Ev.of (F.aX.mono v) h1,h2⟩
def kF (fm:Int)(v:Nat)(r c:Int)(b:Bool):Prop:=∃ al,Ev (fun k=>F.ah.f k (dP v) r c) al/\((ix v (17+4*(v:Int)) r c al=true/\Ev (fun k=>F.aH.f k v fm (dP v) r c) b)\/(ix v (17+4*(v:Int)) r c al=false/\b=false))
theorem CT (fm:Int)(v:Nat)(hv:1<=v/\v<=40)(r c:Int)(hr:0<=r/\r<17+4*(v:Int))(hc:0<=c/\c<17+4*(v:Int)):∃ b,kF fm v r c b:=by
 obtain⟨al,hal⟩:=CH (dP v) r c (qh v hv).2;cases hg:ix v (17+4*(v:Int)) r c al with
 | true=>
  obtain⟨b,hb⟩:=CQ v _ r c fm al (dP v) hv rfl hr hc hal hg;exact⟨b,al,hal,.inl ⟨hg,hb⟩⟩
 | false=>exact⟨false,al,hal,.inr ⟨hg,rfl⟩⟩
theorem oK {α:Type}(A B:List α)(x y:α)(i:Nat)(h:A.length=i):(A++x :: B).set i y=A++y :: B:=by
 subst h;rw [List.set_append_right _ _ (Nat.le_refl _),MD];rfl
theorem qi (A B:List (List Bool))(x:List Bool)(i:Nat)(h:A.length=i):F.aV (A++x :: B) (i:Int)=x:=by
 subst h;unfold F.aV;rw [Mz,MG,List.getElem?_append_right (Nat.le_refl _),MD];rfl
def ie (n:Nat)(cf:Nat->Nat->Bool)(r:Nat):List Bool:=(List.range n).map (cf r)
def aK (n:Nat)(cf:Nat->Nat->Bool)(i:Nat):List (List Bool):=(List.range i).map (ie n cf)
theorem gN (n:Nat)(cf:Nat->Nat->Bool)(i:Nat):(aK n cf i).length=i:=by simp [aK]
def part (n:Nat)(cf:Nat->Nat->Bool)(r j:Nat):List Bool:=(List.range j).map (cf r)++Mw (n-j) false
theorem wM (n:Nat)(cf:Nat->Nat->Bool)(r j:Nat)(h:j<=n):(part n cf r j).length=n:=by simp [part];omega
theorem wN (n:Nat)(cf:Nat->Nat->Bool)(r j:Nat)(h:j<n):(part n cf r j).set j (cf r j)=part n cf r (j+1):=by
 unfold part;rw [show n-j=(n-(j+1))+1 by omega,MN,oK _ _ _ _ j (by simp),List.range_succ,List.map_append,List.append_assoc];rfl
theorem CU (fm l mk:Int)(hfm:Ev (fun k=>F.ic.f k l mk) fm)(v:Nat)(hv:1<=v/\v<=40):∃ cf:Nat->Nat->Bool,(∀ r c:Nat,r<17+4*v->c<17+4*v->kF fm v r c (cf r c))/\
  Ev (fun k=>F.aI.f k v l mk) (aK (17+4*v) cf (17+4*v)):=by
 have hex:∀ r c:Nat,∃ b,r<17+4*v->c<17+4*v->kF fm v r c b:=by
  intro r c;by_cases h:r<17+4*v/\c<17+4*v;rotate_left
  ·exact⟨false,fun h1 h2=>absurd ⟨h1,h2⟩ h⟩
  obtain⟨b,hb⟩:=CT fm v hv r c (by omega) (by omega);exact⟨b,fun _ _=>hb⟩
 obtain⟨n,hn⟩:∃ n,17+4*v=n:=⟨_,rfl⟩;rw [hn] at hex ⊢;refine⟨fun r c=>(hex r c).choose,fun r c h1 h2=>(hex r c).choose_spec h1 h2,?_⟩;generalize hcf:(fun r c=>(hex r c).choose)=cf;have hcell:∀ r c:Nat,r<n->c<n->kF fm v r c (cf r c):=by
  intro r c h1 h2;rw [<- hcf];exact (hex r c).choose_spec h1 h2
 clear hcf;have hnv:(n:Int)=17+4*(v:Int):=by omega
 have H0:∀ (d i:Nat),i+d=n->Ev (fun k=>F.aI.l0 k v n fm (dP v) (aK n cf i++Mw (n-i) []) n i) (aK n cf n):=by
  intro d
  induction d with
  | zero=>
   intro i hi;obtain rfl:i=n:=by omega
   refine Ev.step (f:=fun _=>some (aK i cf i)) (fun k=>?_) (Ev.now _);rw [F.aI.l0,if_neg (by omega),MD,MK,ML]
  | succ d ih=>
   intro i hi;have hnext:=ih (i+1) (by omega);have HW:=Mx (show wrap64 ((i:Int)+1)=((i+1:Nat):Int) by rw [bi _ (by omega) (by omega)];rfl)
   have H1:∀ (e j:Nat),j+e=n->Ev (fun k=>F.aI.l1 k v n fm (dP v) (aK n cf i++part n cf i j :: Mw (n-(i+1)) []) i n i n j) (aK n cf n):=by
    intro e
    induction e with
    | zero=>
     intro j hj;obtain rfl:j=n:=by omega
     have hrow:aK j cf i++part j cf i j :: Mw (j-(i+1)) []=aK j cf (i+1)++Mw (j-(i+1)) []:=by
      unfold aK part;rw [MD,MK,ML,List.range_succ,List.map_append,List.append_assoc];rfl
     refine Ev.step (fun k=>?_) hnext;rw [F.aI.l1,if_neg (by omega),HW.out,hrow]
    | succ e ih1=>
     intro j hj;have h1:=ih1 (j+1) (by omega);have HWJ:=Mx (show wrap64 ((j:Int)+1)=((j+1:Nat):Int) by rw [bi _ (by omega) (by omega)];rfl)
     have hlen:(aK n cf i++part n cf i j :: Mw (n-(i+1)) []).length=n:=by simp [gN];omega
     have hrd:=qi (aK n cf i) (Mw (n-(i+1)) []) (part n cf i j) i (gN n cf i);have hpl:=wM n cf i j (by omega);have hset:(aK n cf i++part n cf i j :: Mw (n-(i+1)) []).set i ((part n cf i j).set j (cf i j))=aK n cf i++part n cf i (j+1) :: Mw (n-(i+1)) []:=by
      rw [oK _ _ _ _ i (gN n cf i),wN n cf i j (by omega)]
     obtain⟨al,hal,hb⟩:=hcell i j (by omega) (by omega);have hgr:=wK v n i j al (dP v) (by omega) (by omega) hal;rw [<- hnv] at hb;have hgo:Ev (fun k=>F.aI.l1 k v n fm (dP v) ((aK n cf i++part n cf i j :: Mw (n-(i+1)) []).set i ((part n cf i j).set j (cf i j))) i n i n ((j+1:Nat):Int)) (aK n cf n):=by rw [hset];exact h1
     refine Ev.step (fun k=>by rw [F.aI.l1,if_pos (by omega),if_pos (by omega),if_pos (by omega)]) (Ev.bind hgr ?_);rcases hb with⟨hg,hp⟩ | ⟨hg,hp⟩
     rotate_left
     ·rw [hg];refine Ev.congr (fun k=>?_) hgo;rw [if_neg (by simp),if_pos (by omega),hrd,if_pos (by omega),HWJ.out,Mz,Mz,hp]
     rw [hg];refine Ev.congr (fun k=>by rw [if_pos rfl]) (Ev.bind hp ?_);refine Ev.congr (fun k=>?_) hgo;rw [if_pos (by omega),hrd,if_pos (by omega),HWJ.out,Mz,Mz]
   have h1:=H1 n 0 (by omega);have hrep:aK n cf i++Mw (n-i) []=aK n cf i++[] :: Mw (n-(i+1)) []:=by rw [show n-i=(n-(i+1))+1 by omega,MN]
   have hlen:(aK n cf i++[] :: Mw (n-(i+1)) []).length=n:=by simp [gN];omega
   have hset:=oK (aK n cf i) (Mw (n-(i+1)) []) [] (Mw n false) i (gN n cf i);have hpz:part n cf i 0=Mw n false:=by unfold part;simp
   rw [hpz] at h1;have hrd:=qi (aK n cf i) (Mw (n-(i+1)) []) (Mw n false) i (gN n cf i);refine Ev.step (fun k=>?_) h1;rw [F.aI.l0,if_pos (by omega),if_pos (by omega),if_pos (by omega),if_pos (by omega),hrep,if_pos (by omega),My,Mz,Mz,hset,hrd,MM];rfl
 have hd:=mC v (by omega);rw [<- hnv] at hd;refine Ev.congr (fun k=>by rw [F.aI.f,hd,My]) (Ev.bind hfm (Ev.bind (qh v hv).1 ?_));have h0:=H0 n 0 (by omega);refine Ev.congr (fun k=>?_) h0;rw [if_pos (by omega),if_pos (by omega),My,Mz,MM];rfl
theorem sW {α:Type}{g:Nat->Option α}{a b:α}(h:Ev g a)(k:Ev g b):a=b:=by
 obtain⟨K,h⟩:=h;obtain⟨K',k⟩:=k;have h1:=h (max K K') (by omega);have h2:=k (max K K') (by omega);rw [h1] at h2;exact Option.some.inj h2
def oL (x b:Int):Bool:=Go.bits .and .i64 (eZ .i64 x b) 1==1
theorem CV (fm:Int)(v:Nat)(hv:1<=v/\v<=40)(r c:Int)(b:Bool)(h:kF fm v r c b)(hr:0<=r/\r<17+4*(v:Int))(hc:0<=c/\c<17+4*(v:Int))(hf:0<=cI (17+4*(v:Int)) r c):b=oL fm (cI (17+4*(v:Int)) r c):=by
 obtain⟨al,hal,h | h⟩:=h
 ·exact sW h.2 (wL v _ r c fm al (dP v) (by omega) rfl hr hc _ rfl hf)
 rw [CI v _ r c al hr hc hf] at h;exact absurd h.1 (by simp)
theorem CW (v:Nat)(n r c fm fm':Int)(cs:List Int)(hv:1<=v/\v<=40)(hn:n=17+4*(v:Int))(hr:0<=r/\r<n)(hc:0<=c/\c<n)(hf:cI n r c=-1)(b:Bool)
  (h:Ev (fun k=>F.aH.f k v fm cs r c) b):Ev (fun k=>F.aH.f k v fm' cs r c) b:=by
 have hfr:=sU n r c (by omega) hr hc;rw [hf] at hfr;obtain⟨K,h⟩:=h;obtain⟨K',hfr⟩:=hfr;refine⟨max K K',fun k hk=>?_⟩;have h1:=h k (by omega);have h2:=hfr k (by omega);have hd:=mC v (by omega);rw [<- hn] at hd;simp only at h1 h2 ⊢;rw [<- h1];unfold F.aH.f;rw [hd];simp only [My,h2];simp only [show ¬ ((-1:Int)≥0) by omega,if_false]
set_option maxRecDepth 100000 in
theorem CX:∀ v:Fin 34,∀ r:Fin 6,∀ t:Fin 3,F.ah.f 400 (dP (v.val+7)) (r.val:Nat) ((17+4*(v.val+7)-11+t.val:Nat):Int)=some (-1)/\
  F.aH.f 400 ((v.val+7:Nat):Int) 30660 (dP (v.val+7)) (r.val:Nat) ((17+4*(v.val+7)-11+t.val:Nat):Int)=some (oL (oJ (v.val+7)) ((r.val*3+t.val:Nat):Int))/\
  ix ((v.val+7:Nat):Int) (17+4*((v.val+7:Nat):Int)) (r.val:Nat) ((17+4*(v.val+7)-11+t.val:Nat):Int) (-1)=true:=by decide +kernel
theorem CY (fm:Int)(v:Nat)(hv:7<=v/\v<=40)(r t:Nat)(hr:r<6)(ht:t<3)(b:Bool)(h:kF fm v r ((17+4*v-11+t:Nat):Int) b):b=oL (oJ v) ((r*3+t:Nat):Int):=by
 obtain⟨h1,h2,h3⟩:=CX ⟨v-7,by omega⟩ ⟨r,hr⟩ ⟨t,ht⟩;simp only [show v-7+7=v by omega] at h1 h2 h3;have hal:=Ev.of (F.ah.mono _ _ _) h1;have hp:=CW v (17+4*(v:Int)) r ((17+4*v-11+t:Nat):Int) 30660 fm (dP v) (by omega) rfl (by omega) (by omega) (by unfold cI;repeat (first | rfl | (rw [if_neg (by omega)]))) _ (Ev.of (F.aH.mono _ _ _ _ _) h2)
 obtain⟨al,ha,h | h⟩:=h
 ·exact sW h.2 hp
 have:al=-1:=sW ha hal;rw [this,h3] at h;exact absurd h.1 (by simp)
theorem far2 (a b c d:Int)(ha:-1000<=a/\a<=1000)(hb:-1000<=b/\b<=1000)(hc:-1000<=c/\c<=1000)(hd:-1000<=d/\d<=1000):∃ t,F.dB.f a b c d=some t/\0<=t/\(t<=2↔(a-c<=2/\c-a<=2/\b-d<=2/\d-b<=2)):=by
 refine⟨_,rfl,?_,?_⟩
 all_goals rw [bi (a-c) (by omega) (by omega),bi (c-a) (by omega) (by omega),bi (b-d) (by omega) (by omega),bi (d-b) (by omega) (by omega)]
 all_goals unfold mx
 all_goals repeat' split
 all_goals omega
def iy (last:Int)(i j:Nat):Prop:=((i:Int)=0/\((j:Int)=0\/(j:Int)=last))\/((i:Int)=last/\(j:Int)=0)
instance (last:Int) (i j:Nat):Decidable (iy last i j):=by unfold iy;exact inferInstance
def iz (cs:List Int)(last r c:Int)(i j:Nat):Prop:=¬ iy last i j/\r-rd cs i<=2/\rd cs i-r<=2/\c-rd cs j<=2/\rd cs j-c<=2
theorem CZ (cs:List Int)(r c:Int)(hl:cs.length<=20)(hr:0<=r/\r<=1000)(hc:0<=c/\c<=1000)(hcs:∀ i:Nat,0<=rd cs i/\rd cs i<=990) :
  ∃ t:Int,Ev (fun k=>F.ah.f k cs r c) t/\(0<=t↔∃ i j:Nat,i<cs.length/\j<cs.length/\iz cs ((cs.length:Int)-1) r c i j):=by
 obtain⟨last,hlast⟩:∃ last,(cs.length:Int)-1=last:=⟨_,rfl⟩;have HLAST:=Mx (show wrap64 ((cs.length:Int)-1)=last by rw [bi _ (by omega) (by omega),hlast]);rw [hlast];clear hlast;have H:∀ (d i:Nat),i+d=cs.length->∃ t:Int,Ev (fun k=>F.ah.l0 k cs r c last cs (cs.length:Int) i) t/\(0<=t↔∃ i' j:Nat,i<=i'/\i'<cs.length/\j<cs.length/\iz cs last r c i' j):=by
  intro d
  induction d with
  | zero=>
   intro i hi;exact⟨-1,Ev.step (f:=fun _=>some (-1)) (fun k=>by rw [F.ah.l0,if_neg (by omega)]) (Ev.now _),by constructor;(intro h;omega);(rintro⟨i',j,h1,h2,_⟩;omega)⟩
  | succ d ih=>
   intro i hi;obtain⟨t0,h0,hq0⟩:=ih (i+1) (by omega);have HW:=Mx (show wrap64 ((i:Int)+1)=((i+1:Nat):Int) by rw [bi _ (by omega) (by omega)];rfl)
   have hcsi:=hcs i;have hsplit:(∃ i' j:Nat,i<=i'/\i'<cs.length/\j<cs.length/\iz cs last r c i' j)↔(∃ j:Nat,j<cs.length/\iz cs last r c i j)\/0<=t0:=by
    rw [hq0];constructor;rotate_left
    ·rintro (⟨j,h3,h4⟩ | ⟨i',j,h1,h2,h3,h4⟩)
     ·exact⟨i,j,Nat.le_refl _,by omega,h3,h4⟩
     exact⟨i',j,by omega,h2,h3,h4⟩
    rintro⟨i',j,h1,h2,h3,h4⟩;by_cases he:i'=i
    ·subst he;exact .inl ⟨j,h3,h4⟩
    exact .inr ⟨i',j,by omega,h2,h3,h4⟩
   obtain⟨a,ha⟩:∃ a,rd cs i=a:=⟨_,rfl⟩;rw [ha] at hcsi;have HA:=Mx ha;have H1:∀ (e j:Nat),j+e=cs.length->∃ t:Int,Ev (fun k=>F.ah.l1 k cs r c last i a cs (cs.length:Int) i cs (cs.length:Int) j) t/\(0<=t↔(∃ j':Nat,j<=j'/\j'<cs.length/\iz cs last r c i j')\/0<=t0):=by
    intro e
    induction e with
    | zero=>
     intro j hj;refine⟨t0,Ev.step (fun k=>by rw [F.ah.l1,if_neg (by omega),HW.out]) h0,?_⟩;constructor
     ·intro h;exact .inr h
     rintro (⟨j',h1,h2,_⟩ | h)
     ·omega
     exact h
    | succ e ih1=>
     intro j hj;obtain⟨t1,h1,hq1⟩:=ih1 (j+1) (by omega);have HWJ:=Mx (show wrap64 ((j:Int)+1)=((j+1:Nat):Int) by rw [bi _ (by omega) (by omega)];rfl)
     have hcsj:=hcs j;have hsj:(∃ j':Nat,j<=j'/\j'<cs.length/\iz cs last r c i j')\/0<=t0↔iz cs last r c i j\/0<=t1:=by
      rw [hq1];constructor;rotate_left
      ·rintro (k3 | ⟨j',k1,k2,k3⟩ | h)
       ·exact .inl ⟨j,Nat.le_refl _,by omega,k3⟩
       ·exact .inl ⟨j',by omega,k2,k3⟩
       exact .inr h
      rintro (⟨j',k1,k2,k3⟩ | h);rotate_left
      ·exact .inr (.inr h)
      by_cases he:j'=j
      ·subst he;exact .inl k3
      exact .inr (.inl ⟨j',by omega,k2,k3⟩)
     rw [hsj];clear hsj;obtain⟨b,hb⟩:∃ b,rd cs j=b:=⟨_,rfl⟩;rw [hb] at hcsj;have HBB:=Mx hb;have hit_eq:iz cs last r c i j↔(¬ iy last i j/\r-a<=2/\a-r<=2/\c-b<=2/\b-c<=2):=by unfold iz;rw [ha,hb]
     rw [hit_eq];clear hb hit_eq;have H3:∀ f:Bool,f=decide (iy last i j)->∃ t:Int,Ev (fun k=>F.ah.j3 k cs r c last i a b cs (cs.length:Int) i cs (cs.length:Int) j f) t/\(0<=t↔(¬ iy last i j/\r-a<=2/\a-r<=2/\c-b<=2/\b-c<=2)\/0<=t1):=by
      intro f hf;cases f with
      | true=>
       have hc0:iy last i j:=of_decide_eq_true hf.symm;exact⟨t1,Ev.step (fun k=>by rw [F.ah.j3,if_pos rfl,HWJ.out]) h1,⟨fun h=>.inr h,fun h=>h.elim (fun h=>absurd hc0 h.1) id⟩⟩
      | false=>
       have hc0:¬ iy last i j:=of_decide_eq_false hf.symm;obtain⟨u,hu,hu0,hu2⟩:=far2 r c a b (by omega) (by omega) (by omega) (by omega);by_cases h2:u<=2
       ·exact⟨u,Ev.step (f:=fun _=>some u) (fun k=>by rw [F.ah.j3,if_neg (by simp),hu,My,if_pos h2]) (Ev.now _),⟨fun _=>.inl ⟨hc0,hu2.1 h2⟩,fun _=>hu0⟩⟩
       exact⟨t1,Ev.step (fun k=>by rw [F.ah.j3,if_neg (by simp),hu,My,if_neg h2,HWJ.out]) h1,⟨fun h=>.inr h,fun h=>h.elim (fun h=>absurd (hu2.2 h.2) h2) id⟩⟩
     have hhead:∀ k,F.ah.l1 (k+1) cs r c last i a cs (cs.length:Int) i cs (cs.length:Int) j=(if (i:Int)=0 then (if (j:Int)=0 then (F.ah.j3 k cs r c last i a b cs (cs.length:Int) i cs (cs.length:Int) j true) else (if (j:Int)=last then (F.ah.j3 k cs r c last i a b cs (cs.length:Int) i cs (cs.length:Int) j true) else (if (i:Int)=last then (F.ah.j3 k cs r c last i a b cs (cs.length:Int) i cs (cs.length:Int) j ((j:Int)==0)) else (F.ah.j3 k cs r c last i a b cs (cs.length:Int) i cs (cs.length:Int) j false)))) else (if (i:Int)=last then (F.ah.j3 k cs r c last i a b cs (cs.length:Int) i cs (cs.length:Int) j ((j:Int)==0)) else (F.ah.j3 k cs r c last i a b cs (cs.length:Int) i cs (cs.length:Int) j false))):=by
      intro k;rw [F.ah.l1,if_pos (by omega),if_pos (by omega),if_pos (by omega),HBB.out]
     by_cases g1:(i:Int)=0;rotate_left
     ·by_cases g4:(i:Int)=last;rotate_left
      ·obtain⟨t,ht,hq⟩:=H3 false (by rw [decide_eq_false (show ¬ iy last i j from by rintro (⟨h,_⟩ | ⟨h,_⟩)<;>contradiction)])
       exact⟨t,Ev.step (fun k=>by rw [hhead,if_neg g1,if_neg g4]) ht,hq⟩
      obtain⟨t,ht,hq⟩:=H3 ((j:Int)==0) (by
       by_cases g2:(j:Int)=0
       ·rw [decide_eq_true (show iy last i j from .inr ⟨g4,g2⟩)];exact beq_iff_eq.2 g2
       rw [decide_eq_false (show ¬ iy last i j from by rintro (⟨h,_⟩ | ⟨_,h⟩)<;>contradiction)];exact beq_eq_false_iff_ne.2 g2)
      exact⟨t,Ev.step (fun k=>by rw [hhead,if_neg g1,if_pos g4]) ht,hq⟩
     by_cases g2:(j:Int)=0
     ·obtain⟨t,ht,hq⟩:=H3 true (by symm;rw [decide_eq_true_eq];exact .inl ⟨g1,.inl g2⟩)
      exact⟨t,Ev.step (fun k=>by rw [hhead,if_pos g1,if_pos g2]) ht,hq⟩
     by_cases g3:(j:Int)=last
     ·obtain⟨t,ht,hq⟩:=H3 true (by symm;rw [decide_eq_true_eq];exact .inl ⟨g1,.inr g3⟩)
      exact⟨t,Ev.step (fun k=>by rw [hhead,if_pos g1,if_neg g2,if_pos g3]) ht,hq⟩
     have hcn:¬ iy last i j:=by rintro (⟨_,h | h⟩ | ⟨_,h⟩)<;>contradiction
     by_cases g4:(i:Int)=last;rotate_left
     ·obtain⟨t,ht,hq⟩:=H3 false (by rw [decide_eq_false hcn]);exact⟨t,Ev.step (fun k=>by rw [hhead,if_pos g1,if_neg g2,if_neg g3,if_neg g4]) ht,hq⟩
     obtain⟨t,ht,hq⟩:=H3 ((j:Int)==0) (by rw [decide_eq_false hcn];exact beq_eq_false_iff_ne.2 g2)
     exact⟨t,Ev.step (fun k=>by rw [hhead,if_pos g1,if_neg g2,if_neg g3,if_pos g4]) ht,hq⟩
   obtain⟨t1,h1,hq1⟩:=H1 cs.length 0 (by omega);rw [hsplit];have hq1':0<=t1↔(∃ j:Nat,j<cs.length/\iz cs last r c i j)\/0<=t0:=by
    rw [hq1];constructor
    ·rintro (⟨j',_,k2,k3⟩ | h)
     ·exact .inl ⟨j',k2,k3⟩
     exact .inr h
    rintro (⟨j',k2,k3⟩ | h)
    ·exact .inl ⟨j',Nat.zero_le _,k2,k3⟩
    exact .inr h
   have hm:wrap64 (a-2)=a-2:=bi _ (by omega) (by omega);have hp:wrap64 (a+2)=a+2:=bi _ (by omega) (by omega);have hhead:∀ k,F.ah.l0 (k+1) cs r c last cs (cs.length:Int) i=(if r<a-2 then (F.ah.j1 k cs r c last i a cs (cs.length:Int) i true) else (F.ah.j1 k cs r c last i a cs (cs.length:Int) i (decide (r>a+2)))):=by
    intro k;rw [F.ah.l0,if_pos (by omega),if_pos (by omega),if_pos (by omega),HA.out,hm,hp]
   have hno:(r<a-2\/r>a+2)->(0<=t0↔(∃ j:Nat,j<cs.length/\iz cs last r c i j)\/0<=t0):=fun hh=>⟨fun h=>.inr h,fun h=>h.elim (fun ⟨j,_,_,k1,k2,_⟩=>by rw [ha] at k1 k2;omega) id⟩
   by_cases g1:r<a-2
   ·exact⟨t0,Ev.step (fun k=>by rw [hhead,if_pos g1]) (Ev.step (fun k=>by rw [F.ah.j1,if_pos rfl,HW.out]) h0),hno (.inl g1)⟩
   by_cases g2:r>a+2
   ·exact⟨t0,Ev.step (fun k=>by rw [hhead,if_neg g1,decide_eq_true g2]) (Ev.step (fun k=>by rw [F.ah.j1,if_pos rfl,HW.out]) h0),hno (.inr g2)⟩
   exact⟨t1,Ev.step (fun k=>by rw [hhead,if_neg g1,decide_eq_false g2]) (Ev.step (fun k=>by rw [F.ah.j1,if_neg (by simp)];rfl) h1),hq1'⟩
 obtain⟨t,ht,hq⟩:=H cs.length 0 (by omega);refine⟨t,Ev.congr (fun k=>by rw [F.ah.f,HLAST.out];rfl) ht,hq.trans ?_⟩
 constructor
 ·rintro⟨i,j,_,h⟩;exact⟨i,j,h⟩
 rintro⟨i,j,h⟩;exact⟨i,j,Nat.zero_le _,h⟩
theorem wO (last i y:Nat):∀ (bs:List Nat) (k:Nat),iM last i y k bs=true↔∃ j,j<bs.length/\gA last i (k+j)=false/\bs.getD j 0-2<=y/\y<bs.getD j 0-2+5:=by
 intro bs
 induction bs with
 | nil=>intro k;simp [iM]
 | cons b bs ih=>
  intro k;rw [iM,MI,ih,MJ,Bool.not_eq_true',decide_eq_true_eq];constructor
  ·rintro (⟨h1,h2⟩ | ⟨j,h1,h2,h3⟩)
   ·exact⟨0,by simp,by simpa using h1,by simpa using h2⟩
   exact⟨j+1,by simpa using h1,by rw [show k+(j+1)=k+1+j by omega];exact h2,by simpa using h3⟩
  rintro⟨j,h1,h2,h3⟩;cases j with
  | zero=>exact .inl ⟨by simpa using h2,by simpa using h3⟩
  | succ j=>exact .inr ⟨j,by simpa using h1,by rw [show k+1+j=k+(j+1) by omega];exact h2,by simpa using h3⟩
theorem C0 (last:Nat)(cs:List Nat)(x y:Nat):∀ (bs:List Nat) (i:Nat),jw last cs x y i bs=true↔∃ j,j<bs.length/\(bs.getD j 0-2<=x/\x<bs.getD j 0-2+5)/\iM last (i+j) y 0 cs=true:=by
 intro bs
 induction bs with
 | nil=>intro i;simp [jw]
 | cons a bs ih=>
  intro i;rw [jw,MI,ih,MJ,decide_eq_true_eq];constructor
  ·rintro (⟨h1,h2⟩ | ⟨j,h1,h2,h3⟩)
   ·exact⟨0,by simp,by simpa using h1,by simpa using h2⟩
   exact⟨j+1,by simpa using h1,by simpa using h2,by rw [show i+(j+1)=i+1+j by omega];exact h3⟩
  rintro⟨j,h1,h2,h3⟩;cases j with
  | zero=>exact .inl ⟨by simpa using h2,by simpa using h3⟩
  | succ j=>exact .inr ⟨j,by simpa using h1,by simpa using h2,by rw [show i+1+j=i+(j+1) by omega];exact h3⟩
theorem C1 (cs:List Nat)(x y:Nat):jW cs x y=true↔∃ i j,i<cs.length/\j<cs.length/\gA (cs.length-1) i j=false/\(cs.getD i 0-2<=x/\x<cs.getD i 0-2+5)/\(cs.getD j 0-2<=y/\y<cs.getD j 0-2+5):=by
 unfold jW;rw [C0];constructor;rotate_left
 ·rintro⟨i,j,h1,h2,h3,h4,h5⟩;exact⟨i,h1,h4,(wO _ _ _ _ _).2 ⟨j,h2,by simpa using h3,h5⟩⟩
 rintro⟨i,h1,h2,h3⟩;obtain⟨j,h4,h5,h6⟩:=(wO _ _ _ _ _).1 h3;exact⟨i,j,h1,h4,by simpa using h5,h2,h6⟩
theorem C2:∀ v:Fin 40,dP (v.val+1)=(bA (v.val+1)).map (fun n:Nat=>(n:Int))/\(∀ x∈bA (v.val+1),6<=x/\x<=900):=by decide +kernel
theorem C3 (v:Nat)(h:1<=v/\v<=40):dP v=(bA v).map (fun n:Nat=>(n:Int))/\(∀ x∈bA v,6<=x/\x<=900):=by
 have:=C2 ⟨v-1,by omega⟩;simp only [show v-1+1=v by omega] at this;exact this
theorem C4 (v:Nat)(hv:1<=v/\v<=40)(r c:Nat)(hr:r<=900)(hc:c<=900):∃ al:Int,Ev (fun k=>F.ah.f k (dP v) r c) al/\decide (al≥0)=jW (bA v) c r:=by
 obtain⟨e,h6⟩:=C3 v hv;obtain⟨hcr,hlen⟩:=qh v hv;rw [e] at hlen ⊢;obtain⟨cs,hcs⟩:∃ cs,bA v=cs:=⟨_,rfl⟩;rw [hcs] at h6 hlen ⊢;rw [List.length_map] at hlen;have hrd:∀ i:Nat,rd (cs.map fun n:Nat=>(n:Int)) i=((cs.getD i 0:Nat):Int):=fun i=>by
  unfold rd;rw [MG,MG,List.getElem?_map,Mz];cases cs[i]?<;>rfl
 have hcl:∀ i,i<cs.length->6<=cs.getD i 0/\cs.getD i 0<=900:=fun i hi=>by
  rw [MG,List.getElem?_eq_getElem hi];exact h6 _ (List.getElem_mem hi)
 have hcl2:∀ i,cs.getD i 0<=900:=fun i=>by
  by_cases hi:i<cs.length
  ·exact (hcl i hi).2
  rw [MG,List.getElem?_eq_none (by omega)];exact Nat.zero_le _
 obtain⟨al,ha,hq⟩:=CZ (cs.map fun n:Nat=>(n:Int)) r c (by rw [List.length_map];exact hlen) (by omega) (by omega) (fun i=>by rw [hrd];have:=hcl2 i;omega)
 refine⟨al,ha,?_⟩;rw [Bool.eq_iff_iff,decide_eq_true_eq,C1,ge_iff_le,hq];simp only [List.length_map];have one:∀ i j:Nat,i<cs.length->j<cs.length->(iz (cs.map fun n:Nat=>(n:Int)) ((cs.length:Int)-1) r c i j↔(gA (cs.length-1) j i=false/\(cs.getD j 0-2<=c/\c<cs.getD j 0-2+5)/\(cs.getD i 0-2<=r/\r<cs.getD i 0-2+5))):=fun i j hi hj=>by
  unfold iz iy gA;rw [hrd,hrd,decide_eq_false_iff_not];have h1:=hcl i hi;have h2:=hcl j hj;omega
 constructor
 ·rintro⟨i,j,hi,hj,h⟩;exact⟨j,i,hj,hi,(one i j hi hj).1 h⟩
 rintro⟨i,j,hi,hj,h⟩;exact⟨j,i,hj,hi,(one j i hj hi).2 h⟩
theorem C5 (v r c:Nat)(al:Int)(cs:List Nat)(hv:1<=v/\v<=40)(hr:r<17+4*v)(hc:c<17+4*v)(ha:decide (al≥0)=jW cs c r):ix (v:Int) (17+4*(v:Int)) r c al=bM v cs c r:=by
 unfold ix bM;rw [ha];cases jW cs c r;rotate_left
 ·simp
 unfold dz;rw [Bool.eq_iff_iff];simp only [MI,MJ,decide_eq_true_eq,Bool.false_eq_true,or_false,false_or];omega
theorem C6 (v:Nat)(hv:1<=v/\v<=40):Ev (fun k=>F.aY.f k v) (aK (17+4*v) (fun r c=>bM v (bA v) c r) (17+4*v)):=by
 obtain⟨cf,hcf⟩:∃ cf:Nat->Nat->Bool,cf=fun r c=>bM v (bA v) c r:=⟨_,rfl⟩
 obtain⟨n,hn⟩:∃ n,17+4*v=n:=⟨_,rfl⟩;rw [<- hcf];have hcell:∀ r c:Nat,r<n->c<n->Ev (fun k=>F.az.f k v (dP v) r c) (cf r c):=fun r c hr hc=>by
  obtain⟨al,ha,hd⟩:=C4 v hv r c (by omega) (by omega);have:=wK v (17+4*(v:Int)) r c al (dP v) (by omega) rfl ha;rw [C5 v r c al (bA v) hv (by omega) (by omega) hd] at this;rw [hcf];exact this
 clear hcf;rw [hn];have hnv:(n:Int)=17+4*(v:Int):=by omega
 have H0:∀ (d i:Nat),i+d=n->Ev (fun k=>F.aY.l0 k v n (dP v) (aK n cf i++Mw (n-i) []) n i) (aK n cf n):=by
  intro d
  induction d with
  | zero=>
   intro i hi;obtain rfl:i=n:=by omega
   refine Ev.step (f:=fun _=>some (aK i cf i)) (fun k=>?_) (Ev.now _);rw [F.aY.l0,if_neg (by omega),MD,MK,ML]
  | succ d ih=>
   intro i hi;have hnext:=ih (i+1) (by omega);have HW:=Mx (show wrap64 ((i:Int)+1)=((i+1:Nat):Int) by rw [bi _ (by omega) (by omega)];rfl)
   have H1:∀ (e j:Nat),j+e=n->Ev (fun k=>F.aY.l1 k v n (dP v) (aK n cf i++part n cf i j :: Mw (n-(i+1)) []) i n i n j) (aK n cf n):=by
    intro e
    induction e with
    | zero=>
     intro j hj;obtain rfl:j=n:=by omega
     have hrow:aK j cf i++part j cf i j :: Mw (j-(i+1)) []=aK j cf (i+1)++Mw (j-(i+1)) []:=by
      unfold aK part;rw [MD,MK,ML,List.range_succ,List.map_append,List.append_assoc];rfl
     refine Ev.step (fun k=>?_) hnext;rw [F.aY.l1,if_neg (by omega),HW.out,hrow]
    | succ e ih1=>
     intro j hj;have h1:=ih1 (j+1) (by omega);have HWJ:=Mx (show wrap64 ((j:Int)+1)=((j+1:Nat):Int) by rw [bi _ (by omega) (by omega)];rfl)
     have hlen:(aK n cf i++part n cf i j :: Mw (n-(i+1)) []).length=n:=by simp [gN];omega
     have hrd:=qi (aK n cf i) (Mw (n-(i+1)) []) (part n cf i j) i (gN n cf i);have hpl:=wM n cf i j (by omega);have hset:(aK n cf i++part n cf i j :: Mw (n-(i+1)) []).set i ((part n cf i j).set j (cf i j))=aK n cf i++part n cf i (j+1) :: Mw (n-(i+1)) []:=by
      rw [oK _ _ _ _ i (gN n cf i),wN n cf i j (by omega)]
     have hgo:Ev (fun k=>F.aY.l1 k v n (dP v) ((aK n cf i++part n cf i j :: Mw (n-(i+1)) []).set i ((part n cf i j).set j (cf i j))) i n i n ((j+1:Nat):Int)) (aK n cf n):=by rw [hset];exact h1
     refine Ev.step (fun k=>by rw [F.aY.l1,if_pos (by omega),if_pos (by omega),if_pos (by omega)]) (Ev.bind (hcell i j (by omega) (by omega)) ?_);refine Ev.congr (fun k=>?_) hgo;rw [if_pos (by omega),hrd,if_pos (by omega),HWJ.out,Mz,Mz]
   have h1:=H1 n 0 (by omega);have hrep:aK n cf i++Mw (n-i) []=aK n cf i++[] :: Mw (n-(i+1)) []:=by rw [show n-i=(n-(i+1))+1 by omega,MN]
   have hlen:(aK n cf i++[] :: Mw (n-(i+1)) []).length=n:=by simp [gN];omega
   have hset:=oK (aK n cf i) (Mw (n-(i+1)) []) [] (Mw n false) i (gN n cf i);have hpz:part n cf i 0=Mw n false:=by unfold part;simp
   rw [hpz] at h1;have hrd:=qi (aK n cf i) (Mw (n-(i+1)) []) (Mw n false) i (gN n cf i);refine Ev.step (fun k=>?_) h1;rw [F.aY.l0,if_pos (by omega),if_pos (by omega),if_pos (by omega),if_pos (by omega),hrep,if_pos (by omega),My,Mz,Mz,hset,hrd,MM];rfl
 have hd:=mC v (by omega);rw [<- hnv] at hd;refine Ev.congr (fun k=>by rw [F.aY.f,hd,My]) (Ev.bind (qh v hv).1 ?_);have h0:=H0 n 0 (by omega);refine Ev.congr (fun k=>?_) h0;rw [if_pos (by omega),if_pos (by omega),My,Mz,MM];rfl
end Go.Proofs.YtgccjgpdjkhpdaaGreat.B
