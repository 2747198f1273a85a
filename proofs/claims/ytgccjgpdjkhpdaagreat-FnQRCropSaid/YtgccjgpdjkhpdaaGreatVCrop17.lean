import Derived.Test.YtgccjgpdjkhpdaaGreatVCrop3
import Derived.Test.YtgccjgpdjkhpdaaGreatVCrop9
/-! Own texts of this claim, part 17. -/
namespace Go.Proofs.YtgccjgpdjkhpdaaGreat.B
open Go.RowKit Go.Proofs.YtgccjgpdjkhpdaaGreatW.PrintWords Go.Proofs.YtgccjgpdjkhpdaaGreatW.PrintLast Go.Proofs.YtgccjgpdjkhpdaaGreatW.PrintMore
set_option linter.unusedVariables false
set_option linter.unusedSimpArgs false
theorem far2 (a b c d:Int)(ha:-1000<=a/\a<=1000)(hb:-1000<=b/\b<=1000)(hc:-1000<=c/\c<=1000)(hd:-1000<=d/\d<=1000):∃ t,F.spec_qrFar.f a b c d=some t/\0<=t/\(t<=2↔(a-c<=2/\c-a<=2/\b-d<=2/\d-b<=2)):=by
 refine⟨_,rfl,?_,?_⟩
 all_goals rw [w64q (a-c) (by omega) (by omega),w64q (c-a) (by omega) (by omega),w64q (b-d) (by omega) (by omega),w64q (d-b) (by omega) (by omega)]
 all_goals unfold mx
 all_goals repeat' split
 all_goals omega
def cornI (last:Int)(i j:Nat):Prop:=((i:Int)=0/\((j:Int)=0\/(j:Int)=last))\/((i:Int)=last/\(j:Int)=0)
instance (last:Int) (i j:Nat):Decidable (cornI last i j):=by unfold cornI;exact inferInstance
def hitI (cs:List Int)(last r c:Int)(i j:Nat):Prop:=¬ cornI last i j/\r-rd cs i<=2/\rd cs i-r<=2/\c-rd cs j<=2/\rd cs j-c<=2
theorem align_run (cs:List Int)(r c:Int)(hl:cs.length<=20)(hr:0<=r/\r<=1000)(hc:0<=c/\c<=1000)(hcs:∀ i:Nat,0<=rd cs i/\rd cs i<=990) :
  ∃ t:Int,Ev (fun k=>F.spec_qrAlign.f k cs r c) t/\(0<=t↔∃ i j:Nat,i<cs.length/\j<cs.length/\hitI cs ((cs.length:Int)-1) r c i j):=by
 obtain⟨last,hlast⟩:∃ last,(cs.length:Int)-1=last:=⟨_,rfl⟩
 have HLAST:=Aside0.mk (show wrap64 ((cs.length:Int)-1)=last by rw [w64q _ (by omega) (by omega),hlast])
 rw [hlast]
 clear hlast
 have H:∀ (d i:Nat),i+d=cs.length->∃ t:Int,Ev (fun k=>F.spec_qrAlign.l0 k cs r c last cs (cs.length:Int) i) t/\(0<=t↔∃ i' j:Nat,i<=i'/\i'<cs.length/\j<cs.length/\hitI cs last r c i' j):=by
  intro d
  induction d with
  | zero=>
   intro i hi
   exact⟨-1,Ev.step (f:=fun _=>some (-1)) (fun k=>by rw [F.spec_qrAlign.l0,if_neg (by omega)]) (Ev.now _),by constructor;(intro h;omega);(rintro⟨i',j,h1,h2,_⟩;omega)⟩
  | succ d ih=>
   intro i hi
   obtain⟨t0,h0,hq0⟩:=ih (i+1) (by omega)
   have HW:=Aside0.mk (show wrap64 ((i:Int)+1)=((i+1:Nat):Int) by rw [w64q _ (by omega) (by omega)];rfl)
   have hcsi:=hcs i
   have hsplit:(∃ i' j:Nat,i<=i'/\i'<cs.length/\j<cs.length/\hitI cs last r c i' j)↔(∃ j:Nat,j<cs.length/\hitI cs last r c i j)\/0<=t0:=by
    rw [hq0]
    constructor
    ·rintro⟨i',j,h1,h2,h3,h4⟩
     by_cases he:i'=i
     ·subst he;exact .inl ⟨j,h3,h4⟩
     ·exact .inr ⟨i',j,by omega,h2,h3,h4⟩
    ·rintro (⟨j,h3,h4⟩ | ⟨i',j,h1,h2,h3,h4⟩)
     ·exact⟨i,j,Nat.le_refl _,by omega,h3,h4⟩
     ·exact⟨i',j,by omega,h2,h3,h4⟩
   obtain⟨a,ha⟩:∃ a,rd cs i=a:=⟨_,rfl⟩
   rw [ha] at hcsi
   have HA:=Aside0.mk ha
   have H1:∀ (e j:Nat),j+e=cs.length->∃ t:Int,Ev (fun k=>F.spec_qrAlign.l1 k cs r c last i a cs (cs.length:Int) i cs (cs.length:Int) j) t/\(0<=t↔(∃ j':Nat,j<=j'/\j'<cs.length/\hitI cs last r c i j')\/0<=t0):=by
    intro e
    induction e with
    | zero=>
     intro j hj
     refine⟨t0,Ev.step (fun k=>by rw [F.spec_qrAlign.l1,if_neg (by omega),HW.out]) h0,?_⟩
     constructor
     ·intro h;exact .inr h
     ·rintro (⟨j',h1,h2,_⟩ | h)
      ·omega
      ·exact h
    | succ e ih1=>
     intro j hj
     obtain⟨t1,h1,hq1⟩:=ih1 (j+1) (by omega)
     have HWJ:=Aside0.mk (show wrap64 ((j:Int)+1)=((j+1:Nat):Int) by rw [w64q _ (by omega) (by omega)];rfl)
     have hcsj:=hcs j
     have hsj:(∃ j':Nat,j<=j'/\j'<cs.length/\hitI cs last r c i j')\/0<=t0↔hitI cs last r c i j\/0<=t1:=by
      rw [hq1]
      constructor
      ·rintro (⟨j',k1,k2,k3⟩ | h)
       ·by_cases he:j'=j
        ·subst he;exact .inl k3
        ·exact .inr (.inl ⟨j',by omega,k2,k3⟩)
       ·exact .inr (.inr h)
      ·rintro (k3 | ⟨j',k1,k2,k3⟩ | h)
       ·exact .inl ⟨j,Nat.le_refl _,by omega,k3⟩
       ·exact .inl ⟨j',by omega,k2,k3⟩
       ·exact .inr h
     rw [hsj]
     clear hsj
     obtain⟨b,hb⟩:∃ b,rd cs j=b:=⟨_,rfl⟩
     rw [hb] at hcsj
     have HBB:=Aside0.mk hb
     have hit_eq:hitI cs last r c i j↔(¬ cornI last i j/\r-a<=2/\a-r<=2/\c-b<=2/\b-c<=2):=by unfold hitI;rw [ha,hb]
     rw [hit_eq]
     clear hb hit_eq
     have H3:∀ f:Bool,f=decide (cornI last i j)->∃ t:Int,Ev (fun k=>F.spec_qrAlign.j3 k cs r c last i a b cs (cs.length:Int) i cs (cs.length:Int) j f) t/\(0<=t↔(¬ cornI last i j/\r-a<=2/\a-r<=2/\c-b<=2/\b-c<=2)\/0<=t1):=by
      intro f hf
      cases f with
      | true=>
       have hc0:cornI last i j:=of_decide_eq_true hf.symm
       exact⟨t1,Ev.step (fun k=>by rw [F.spec_qrAlign.j3,if_pos rfl,HWJ.out]) h1,⟨fun h=>.inr h,fun h=>h.elim (fun h=>absurd hc0 h.1) id⟩⟩
      | false=>
       have hc0:¬ cornI last i j:=of_decide_eq_false hf.symm
       obtain⟨u,hu,hu0,hu2⟩:=far2 r c a b (by omega) (by omega) (by omega) (by omega)
       by_cases h2:u<=2
       ·exact⟨u,Ev.step (f:=fun _=>some u) (fun k=>by rw [F.spec_qrAlign.j3,if_neg (by simp),hu,Option.bind_some,if_pos h2]) (Ev.now _),⟨fun _=>.inl ⟨hc0,hu2.1 h2⟩,fun _=>hu0⟩⟩
       ·exact⟨t1,Ev.step (fun k=>by rw [F.spec_qrAlign.j3,if_neg (by simp),hu,Option.bind_some,if_neg h2,HWJ.out]) h1,⟨fun h=>.inr h,fun h=>h.elim (fun h=>absurd (hu2.2 h.2) h2) id⟩⟩
     have hhead:∀ k,F.spec_qrAlign.l1 (k+1) cs r c last i a cs (cs.length:Int) i cs (cs.length:Int) j=(if (i:Int)=0 then (if (j:Int)=0 then (F.spec_qrAlign.j3 k cs r c last i a b cs (cs.length:Int) i cs (cs.length:Int) j true) else (if (j:Int)=last then (F.spec_qrAlign.j3 k cs r c last i a b cs (cs.length:Int) i cs (cs.length:Int) j true) else (if (i:Int)=last then (F.spec_qrAlign.j3 k cs r c last i a b cs (cs.length:Int) i cs (cs.length:Int) j ((j:Int)==0)) else (F.spec_qrAlign.j3 k cs r c last i a b cs (cs.length:Int) i cs (cs.length:Int) j false)))) else (if (i:Int)=last then (F.spec_qrAlign.j3 k cs r c last i a b cs (cs.length:Int) i cs (cs.length:Int) j ((j:Int)==0)) else (F.spec_qrAlign.j3 k cs r c last i a b cs (cs.length:Int) i cs (cs.length:Int) j false))):=by
      intro k
      rw [F.spec_qrAlign.l1,if_pos (by omega),if_pos (by omega),if_pos (by omega),HBB.out]
     by_cases g1:(i:Int)=0
     ·by_cases g2:(j:Int)=0
      ·obtain⟨t,ht,hq⟩:=H3 true (by symm;rw [decide_eq_true_eq];exact .inl ⟨g1,.inl g2⟩)
       exact⟨t,Ev.step (fun k=>by rw [hhead,if_pos g1,if_pos g2]) ht,hq⟩
      ·by_cases g3:(j:Int)=last
       ·obtain⟨t,ht,hq⟩:=H3 true (by symm;rw [decide_eq_true_eq];exact .inl ⟨g1,.inr g3⟩)
        exact⟨t,Ev.step (fun k=>by rw [hhead,if_pos g1,if_neg g2,if_pos g3]) ht,hq⟩
       ·have hcn:¬ cornI last i j:=by rintro (⟨_,h | h⟩ | ⟨_,h⟩)<;>contradiction
        by_cases g4:(i:Int)=last
        ·obtain⟨t,ht,hq⟩:=H3 ((j:Int)==0) (by rw [decide_eq_false hcn];exact beq_eq_false_iff_ne.2 g2)
         exact⟨t,Ev.step (fun k=>by rw [hhead,if_pos g1,if_neg g2,if_neg g3,if_pos g4]) ht,hq⟩
        ·obtain⟨t,ht,hq⟩:=H3 false (by rw [decide_eq_false hcn])
         exact⟨t,Ev.step (fun k=>by rw [hhead,if_pos g1,if_neg g2,if_neg g3,if_neg g4]) ht,hq⟩
     ·by_cases g4:(i:Int)=last
      ·obtain⟨t,ht,hq⟩:=H3 ((j:Int)==0) (by
        by_cases g2:(j:Int)=0
        ·rw [decide_eq_true (show cornI last i j from .inr ⟨g4,g2⟩)];exact beq_iff_eq.2 g2
        ·rw [decide_eq_false (show ¬ cornI last i j from by rintro (⟨h,_⟩ | ⟨_,h⟩)<;>contradiction)];exact beq_eq_false_iff_ne.2 g2)
       exact⟨t,Ev.step (fun k=>by rw [hhead,if_neg g1,if_pos g4]) ht,hq⟩
      ·obtain⟨t,ht,hq⟩:=H3 false (by rw [decide_eq_false (show ¬ cornI last i j from by rintro (⟨h,_⟩ | ⟨h,_⟩)<;>contradiction)])
       exact⟨t,Ev.step (fun k=>by rw [hhead,if_neg g1,if_neg g4]) ht,hq⟩
   obtain⟨t1,h1,hq1⟩:=H1 cs.length 0 (by omega)
   rw [hsplit]
   have hq1':0<=t1↔(∃ j:Nat,j<cs.length/\hitI cs last r c i j)\/0<=t0:=by
    rw [hq1]
    constructor
    ·rintro (⟨j',_,k2,k3⟩ | h)
     ·exact .inl ⟨j',k2,k3⟩
     ·exact .inr h
    ·rintro (⟨j',k2,k3⟩ | h)
     ·exact .inl ⟨j',Nat.zero_le _,k2,k3⟩
     ·exact .inr h
   have hm:wrap64 (a-2)=a-2:=w64q _ (by omega) (by omega)
   have hp:wrap64 (a+2)=a+2:=w64q _ (by omega) (by omega)
   have hhead:∀ k,F.spec_qrAlign.l0 (k+1) cs r c last cs (cs.length:Int) i=(if r<a-2 then (F.spec_qrAlign.j1 k cs r c last i a cs (cs.length:Int) i true) else (F.spec_qrAlign.j1 k cs r c last i a cs (cs.length:Int) i (decide (r>a+2)))):=by
    intro k
    rw [F.spec_qrAlign.l0,if_pos (by omega),if_pos (by omega),if_pos (by omega),HA.out,hm,hp]
   have hno:(r<a-2\/r>a+2)->(0<=t0↔(∃ j:Nat,j<cs.length/\hitI cs last r c i j)\/0<=t0):=fun hh=>⟨fun h=>.inr h,fun h=>h.elim (fun ⟨j,_,_,k1,k2,_⟩=>by rw [ha] at k1 k2;omega) id⟩
   by_cases g1:r<a-2
   ·exact⟨t0,Ev.step (fun k=>by rw [hhead,if_pos g1]) (Ev.step (fun k=>by rw [F.spec_qrAlign.j1,if_pos rfl,HW.out]) h0),hno (.inl g1)⟩
   ·by_cases g2:r>a+2
    ·exact⟨t0,Ev.step (fun k=>by rw [hhead,if_neg g1,decide_eq_true g2]) (Ev.step (fun k=>by rw [F.spec_qrAlign.j1,if_pos rfl,HW.out]) h0),hno (.inr g2)⟩
    ·exact⟨t1,Ev.step (fun k=>by rw [hhead,if_neg g1,decide_eq_false g2]) (Ev.step (fun k=>by rw [F.spec_qrAlign.j1,if_neg (by simp)];rfl) h1),hq1'⟩
 obtain⟨t,ht,hq⟩:=H cs.length 0 (by omega)
 refine⟨t,Ev.congr (fun k=>by rw [F.spec_qrAlign.f,HLAST.out];rfl) ht,hq.trans ?_⟩
 constructor
 ·rintro⟨i,j,_,h⟩;exact⟨i,j,h⟩
 ·rintro⟨i,j,h⟩;exact⟨i,j,Nat.zero_le _,h⟩
end Go.Proofs.YtgccjgpdjkhpdaaGreat.B
namespace Go.Proofs.YtgccjgpdjkhpdaaGreat.F
open Go.RowKit Go.Proofs.YtgccjgpdjkhpdaaGreatW.PrintWords Go.Proofs.YtgccjgpdjkhpdaaGreatW.PrintLast Go.Proofs.YtgccjgpdjkhpdaaGreatW.PrintMore
attribute [local go_sem] max2_int min2_int max_two min_two max_three min_three max_four min_four
set_option linter.unusedVariables false
set_option linter.unusedSimpArgs false
mutual
def spec_QRGiven.l0:Nat->Int->Int->List Int->List (List Bool)->Int->Int->Option ((List (List Bool)))
 | 0,_,_,_,_,_,_=>none
 | k+1,x0,x3,x4,x5,x15,x16=>if x16<x15 then (if 0<=x3 then (if (x3:Int).toNat<=281474976710656 then (if 0<=x16 then (if x16<(x5.length:Int) then ((some (x5.set (x16:Int).toNat (List.replicate (x3:Int).toNat false):List (List Bool))).bind fun y388=>(spec_QRGiven.l1 k x0 x3 x4 y388 x16 x15 x16 ((rd_L1 y388 x16).length:Int) 0)) else (none)) else (none)) else (none)) else (none)) else (some x5)
def spec_QRGiven.l1:Nat->Int->Int->List Int->List (List Bool)->Int->Int->Int->Int->Int->Option ((List (List Bool)))
 | 0,_,_,_,_,_,_,_,_,_=>none
 | k+1,x0,x3,x4,x5,x6,x15,x16,x28,x29=>if x29<x28 then (if 0<=x6 then (if x6<(x5.length:Int) then ((spec_qrGiven.f k x0 x4 x6 x29).bind fun t391=>(if 0<=x29 then (if x29<((rd_L1 x5 x6).length:Int) then (spec_QRGiven.l1 k x0 x3 x4 (x5.set (x6:Int).toNat ((rd_L1 x5 x6).set (x29:Int).toNat t391)) x6 x15 x16 x28 (wrap64 (x29+1))) else (none)) else (none))) else (none)) else (none)) else (spec_QRGiven.l0 k x0 x3 x4 x5 x15 (wrap64 (x16+1)))
end
def spec_QRGiven.f (k:Nat)(a0:Int):Option ((List (List Bool))):=(spec_QRDimension.f a0).bind fun t378=>((spec_QRCenters.f k a0).bind fun t379=>(if 0<=t378 then (if (t378:Int).toNat<=11728124029610 then ((some (List.replicate (t378:Int).toNat []:List (List Bool))).bind fun y382=>(spec_QRGiven.l0 k a0 t378 t379 y382 (y382.length:Int) 0)) else (none)) else (none)))
theorem spec_QRGiven.mono_l:∀ k,(∀ y0 y1 y2 y3 y4 y5,LeO (spec_QRGiven.l0 k y0 y1 y2 y3 y4 y5) (spec_QRGiven.l0 (k+1) y0 y1 y2 y3 y4 y5))/\(∀ y0 y1 y2 y3 y4 y5 y6 y7 y8,LeO (spec_QRGiven.l1 k y0 y1 y2 y3 y4 y5 y6 y7 y8) (spec_QRGiven.l1 (k+1) y0 y1 y2 y3 y4 y5 y6 y7 y8))
 | 0=>⟨fun _ _ _ _ _ _ r h=>by simp [spec_QRGiven.l0] at h,fun _ _ _ _ _ _ _ _ _ r h=>by simp [spec_QRGiven.l1] at h⟩
 | k+1=>by
  obtain⟨ih0,ih1⟩:=spec_QRGiven.mono_l k
  refine⟨?_,?_⟩
  ·intro y0 y1 y2 y3 y4 y5
   unfold spec_QRGiven.l0
   repeat' first
   | (with_reducible exact ih0 _ _ _ _ _ _)
   | (with_reducible exact ih1 _ _ _ _ _ _ _ _ _)
   | (with_reducible exact spec_QRCenters.mono _ _)
   | (with_reducible exact spec_qrGiven.mono _ _ _ _ _)
   | (with_reducible exact LeO.refl _)
   | (with_reducible exact LeO.none _)
   | (with_reducible refine LeO.ite ?_ ?_)
   | (with_reducible refine LeO.bind ?_ (fun _=>?_))
   | exact ih0 _ _ _ _ _ _
   | exact ih1 _ _ _ _ _ _ _ _ _
   | exact spec_QRCenters.mono _ _
   | exact spec_qrGiven.mono _ _ _ _ _
   | exact LeO.none _
   | refine LeO.ite ?_ ?_
   | refine LeO.bind ?_ (fun _=>?_)
  ·intro y0 y1 y2 y3 y4 y5 y6 y7 y8
   unfold spec_QRGiven.l1
   repeat' first
   | (with_reducible exact ih0 _ _ _ _ _ _)
   | (with_reducible exact ih1 _ _ _ _ _ _ _ _ _)
   | (with_reducible exact spec_QRCenters.mono _ _)
   | (with_reducible exact spec_qrGiven.mono _ _ _ _ _)
   | (with_reducible exact LeO.refl _)
   | (with_reducible exact LeO.none _)
   | (with_reducible refine LeO.ite ?_ ?_)
   | (with_reducible refine LeO.bind ?_ (fun _=>?_))
   | exact ih0 _ _ _ _ _ _
   | exact ih1 _ _ _ _ _ _ _ _ _
   | exact spec_QRCenters.mono _ _
   | exact spec_qrGiven.mono _ _ _ _ _
   | exact LeO.none _
   | refine LeO.ite ?_ ?_
   | refine LeO.bind ?_ (fun _=>?_)
theorem spec_QRGiven.mono:∀ a0 k,LeO (spec_QRGiven.f k a0) (spec_QRGiven.f (k+1) a0):=by
 intro a0 k
 obtain⟨ih0,ih1⟩:=spec_QRGiven.mono_l k
 unfold spec_QRGiven.f
 repeat' first
   | (with_reducible exact ih0 _ _ _ _ _ _)
   | (with_reducible exact ih1 _ _ _ _ _ _ _ _ _)
   | (with_reducible exact spec_QRCenters.mono _ _)
   | (with_reducible exact spec_qrGiven.mono _ _ _ _ _)
   | (with_reducible exact LeO.refl _)
   | (with_reducible exact LeO.none _)
   | (with_reducible refine LeO.ite ?_ ?_)
   | (with_reducible refine LeO.bind ?_ (fun _=>?_))
   | exact ih0 _ _ _ _ _ _
   | exact ih1 _ _ _ _ _ _ _ _ _
   | exact spec_QRCenters.mono _ _
   | exact spec_qrGiven.mono _ _ _ _ _
   | exact LeO.none _
   | refine LeO.ite ?_ ?_
   | refine LeO.bind ?_ (fun _=>?_)
def spec_QRGiven.T11:Bool×List (List Nat×List Nat):=(true,[([],[]),([],[]),([0,1],[0,1]),([2],[2]),([],[]),([],[]),([],[]),([],[]),([],[]),([5,6,7,8],[5,6,7,8]),([3,4,0,1,2,3,4,5,6,7,8,9],[3,4]),([10,9,9,0,1,2,3,4,5,6,7,8,9],[9,10])])
def spec_QRGiven.B11:List Nat:=[0,0,3,7,0,0,0,0,0,480,1023,2047]
theorem spec_QRGiven.tab11:rtab .any (opsOf Tryz.f121 11)=spec_QRGiven.T11:=by kernel_rfl
theorem spec_QRGiven.bits11:waitsOk spec_QRGiven.T11.2 spec_QRGiven.B11=true:=by kernel_rfl
set_option maxHeartbeats 8000000 in
set_option maxRecDepth 100000 in
theorem spec_QRGiven.calls (k:Nat)(a0:Int)(r:List (List Bool))(w:World)(h:spec_QRGiven.f k a0=some r) :
  Calls Tryz.prog 121 #[.int .i64 a0] w fun e w'=>∃ v0_:Value,e=.returned (v0_)/\Kd.S (Kd.slice 4 Kd.bool) 45 w' w.heap.size (fun _=>True) v0_ r/\Below w.heap.size w w':=by
 have HB:=Aside0.mk (Below.refl w.heap.size w)
 have H:((spec_QRDimension.f a0).bind fun t378=>((spec_QRCenters.f k a0).bind fun t379=>(if 0<=t378 then (if (t378:Int).toNat<=11728124029610 then ((some (List.replicate (t378:Int).toNat []:List (List Bool))).bind fun y382=>(spec_QRGiven.l0 k a0 t378 t379 y382 (y382.length:Int) 0)) else (none)) else (none))))=some r:=h
 clear h
 replace H:=Option.bind_eq_some_iff.mp H
 obtain⟨t378,A20,H⟩:=H
 replace H:((spec_QRCenters.f k a0).bind fun t379=>(if 0<=t378 then (if (t378:Int).toNat<=11728124029610 then ((some (List.replicate (t378:Int).toNat []:List (List Bool))).bind fun y382=>(spec_QRGiven.l0 k a0 t378 t379 y382 (y382.length:Int) 0)) else (none)) else (none)))=some r:=H
 have A2:=Aside0.mk A20
 clear A20
 replace H:=Option.bind_eq_some_iff.mp H
 obtain⟨t379,A30,H⟩:=H
 replace H:(if 0<=t378 then (if (t378:Int).toNat<=11728124029610 then ((some (List.replicate (t378:Int).toNat []:List (List Bool))).bind fun y382=>(spec_QRGiven.l0 k a0 t378 t379 y382 (y382.length:Int) 0)) else (none)) else (none))=some r:=H
 have A3:=Aside0.mk A30
 clear A30
 by_cases c4:0<=t378
 ·rw [if_pos c4] at H
  have c4b0:=eq_true c4
  have c4b1:decide (0<=t378)=true:=decide_eq_true c4
  clear c4
  by_cases c5:(t378:Int).toNat<=11728124029610
  ·rw [if_pos c5] at H
   have c5b0:=eq_true c5
   have c5b1:decide ((t378:Int).toNat<=11728124029610)=true:=decide_eq_true c5
   clear c5
   obtain⟨y382,hy382⟩:∃ y_:List (List Bool),y_=(List.replicate (t378:Int).toNat []):=⟨_,rfl⟩
   replace H:(spec_QRGiven.l0 k a0 t378 t379 y382 (y382.length:Int) 0)=some r:=by first | (rw [hy382];with_reducible exact H) | (have H2_:=(Option.bind_some _ _).symm.trans H;rw [hy382];with_reducible exact H2_) | (have H2_:=(Option.bind_some _ _).symm.trans H;with_reducible exact H2_) | with_reducible exact H | (rw [hy382];exact H) | exact H
   have Ny382:=Aside0.mk hy382
   clear hy382
   have H':=Aside0.mk H
   clear H
   go_enter Tryz.func121,Tryz.ntmps121
   go_wp2_with (first | ((with_reducible refine gate_callee (f:=46) rfl ?_);refine goesL_ (some 9) rfl rfl Tryz.func46 (by kernel_rfl) rfl #[.int .i64 a0] rfl (by (try simp only [List.map_toArray,List.map_cons,List.map_nil]);first | done | rfl | (simp only [List.length_drop,List.length_take];rfl)) ?_;(with_reducible refine (spec_QRDimension.calls a0 t378 _ A2.out).mono ?_);rintro e w' ⟨rfl,⟨nd,rfl⟩⟩;refine⟨_,rfl,?_⟩) | ((with_reducible refine gate_callee (f:=48) rfl ?_);refine goesL_ (some 11) rfl rfl Tryz.func48 (by kernel_rfl) rfl #[.int .i64 a0] rfl (by (try simp only [List.map_toArray,List.map_cons,List.map_nil]);first | done | rfl | (simp only [List.length_drop,List.length_take];rfl)) ?_;(with_reducible refine (spec_QRCenters.calls k a0 t379 _ A3.out).mono ?_);rintro e w6 ⟨v380,rfl,ho0,hb⟩;refine⟨_,rfl,?_⟩;have n0_:=Aside0.mk (Kd.R_lower ho0 (below_size (by repeat (first | (with_reducible first | exact HB.out | apply below_alloc | apply pw_below_drewN | apply below_drew1) | exact HB.out))));have n1_:=Aside0.mk (below_step (by repeat (first | (with_reducible first | exact HB.out | apply below_alloc | apply pw_below_drewN | apply below_drew1) | exact HB.out)) hb);clear HB;have HO381:=n0_;have HB:=n1_;clear n0_ n1_;(try clear hb);(try clear hb2);(try clear hk);(try clear hi);(try clear ho0)) | ((with_reducible refine gate_dst (N:=13) rfl ?_);refine Kd.S_make (Kd.slice 4 Kd.bool) _ 45 rfl (N:=13) rfl 22 _ _ rfl t378 rfl rfl Tryz.underlying22 (.slice none 0 0) 24 info45 rfl (by decide) (by omega) [] (ok:=fun _=>True) (okp:=fun _=>True) ⟨_,rfl,Kd.R_nil _ _ _ _ _⟩ (fun _ hk=>hk) trivial (of_decide_eq_true (by first | (with_reducible assumption) | assumption)) (Nat.le_trans (Nat.mul_le_mul_right _ (of_decide_eq_true (by first | (with_reducible assumption) | assumption):t378.toNat<=11728124029610)) (by omega)) (Below.refl _ _) (Nat.le_refl _) ?_;intro v383 w7 ho8 hb hg_ hnew_;clear hg_ hnew_;(first | rw [<- Ny382.out] at ho8 | (simp only [Int.reduceToNat] at ho8;rw [<- Ny382.out] at ho8));have n0_:=Aside0.mk (Kd.R_below (by (with_reducible repeat (first | apply Kd.R_alloc | apply Kd.R_drewN | apply Kd.R_drew));exact HO381.out) hb);have n1_:=Aside0.mk (Kd.S_lower ho8 (below_size (by repeat (first | (with_reducible first | exact HB.out | apply below_alloc | apply pw_below_drewN | apply below_drew1) | exact HB.out))));have n2_:=Aside0.mk (below_step (by repeat (first | (with_reducible first | exact HB.out | apply below_alloc | apply pw_below_drewN | apply below_drew1) | exact HB.out)) hb);clear HO381;clear HB;have HO381:=n0_;have HO384:=n1_;have HB:=n2_;clear n0_ n1_ n2_;clear hb ho8;obtain⟨Ao9,co9,eo9⟩:=Kd.S_slice HO384.out;subst eo9))
   go_loopg [16] k (fun kq v16 w'=>∃ (x5_1:List (List Bool)) (x16_1:Int),v16=.int .i64 x16_1/\Aside0 (spec_QRGiven.l0 kq a0 t378 t379 x5_1 (y382.length:Int) x16_1=some r)/\Aside0 (kq<=k)/\Aside0 (Kd.R (Kd.int .i64) 3 w' w.heap.size (fun _=>True) v380 t379)/\Aside0 (Kd.S (Kd.slice 4 Kd.bool) 45 w' w.heap.size (fun _=>True) (.slice Ao9 y382.length co9) x5_1)/\Aside0 (Below w.heap.size w w'))
   case atStart=>exact⟨(y382),(0),(by first | rfl | (simp;done) | (simp [*];done)),H',⟨Nat.le_refl _⟩,⟨by (with_reducible repeat (first | apply Kd.R_alloc | apply Kd.R_drewN | apply Kd.R_drew));exact HO381.out⟩,⟨by (with_reducible repeat (first | apply Kd.S_alloc | apply Kd.S_drewN | apply Kd.S_drew));exact HO384.out⟩,⟨by repeat (first | (with_reducible first | exact HB.out | apply below_alloc | apply pw_below_drewN | apply below_drew1) | exact HB.out)⟩⟩
   case round=>
    clear H'
    try clear c1
    try clear p2
    try clear c4
    try clear c4b0
    try clear c4b1
    try clear c5
    try clear c5b0
    try clear c5b1
    obtain⟨x5_1,x16_1,rfl,HA,HK1,HO_4,HO_5,HB⟩:=hrel
    have hl5_1:=(Kd.S_reads' HO_5.out).1
    rw [hl5_1] at HO_5
    (try simp only [hl5_1])
    (try simp only [hl5_1] at HO_4)
    cases gk with
    | zero=>exact absurd HA.out (by simp [spec_QRGiven.l0])
    | succ k1=>
     have H:=HA.out
     clear HA
     simp only [spec_QRGiven.l0] at H
     by_cases c10:x16_1<(y382.length:Int)
     ·rw [if_pos c10] at H
      have c10b0:decide (x16_1<(y382.length:Int))=true:=decide_eq_true c10
      clear c10
      by_cases c11:0<=t378
      ·rw [if_pos c11] at H
       have c11b0:=eq_true c11
       have c11b1:decide (0<=t378)=true:=decide_eq_true c11
       clear c11
       by_cases c12:(t378:Int).toNat<=281474976710656
       ·rw [if_pos c12] at H
        have c12b0:=eq_true c12
        have c12b1:decide ((t378:Int).toNat<=281474976710656)=true:=decide_eq_true c12
        clear c12
        obtain⟨y385,hy385⟩:∃ y_:List Bool,y_=(List.replicate (t378:Int).toNat false):=⟨_,rfl⟩
        replace H:(if 0<=x16_1 then (if x16_1<(x5_1.length:Int) then ((some (x5_1.set (x16_1:Int).toNat y385:List (List Bool))).bind fun y388=>(spec_QRGiven.l1 k1 a0 t378 t379 y388 x16_1 (y382.length:Int) x16_1 ((rd_L1 y388 x16_1).length:Int) 0)) else (none)) else (none))=some r:=by first | (rw [hy385];with_reducible exact H) | (have H2_:=(Option.bind_some _ _).symm.trans H;rw [hy385];with_reducible exact H2_) | (have H2_:=(Option.bind_some _ _).symm.trans H;with_reducible exact H2_) | with_reducible exact H | (rw [hy385];exact H) | exact H
        have Ny385:=Aside0.mk hy385
        clear hy385
        by_cases c13:0<=x16_1
        ·rw [if_pos c13] at H
         have c13b0:decide (0<=x16_1)=true:=decide_eq_true c13
         clear c13
         by_cases c14:x16_1<(x5_1.length:Int)
         ·rw [if_pos c14] at H
          have c14b0:decide (x16_1<(x5_1.length:Int))=true:=decide_eq_true c14
          clear c14
          obtain⟨y388,hy388⟩:∃ y_:List (List Bool),y_=(x5_1.set (x16_1:Int).toNat y385):=⟨_,rfl⟩
          replace H:(spec_QRGiven.l1 k1 a0 t378 t379 y388 x16_1 (y382.length:Int) x16_1 ((rd_L1 y388 x16_1).length:Int) 0)=some r:=by first | (rw [hy388];with_reducible exact H) | (have H2_:=(Option.bind_some _ _).symm.trans H;rw [hy388];with_reducible exact H2_) | (have H2_:=(Option.bind_some _ _).symm.trans H;with_reducible exact H2_) | with_reducible exact H | (rw [hy388];exact H) | exact H
          have Ny388:=Aside0.mk hy388
          clear hy388
          have H':=Aside0.mk H
          clear H
          go_wp2_with (first | ((with_reducible refine gate_dst (N:=22) rfl ?_);refine Kd.R_make Kd.bool _ 4 rfl (N:=22) rfl 45 _ _ rfl t378 rfl rfl Tryz.underlying45 (.bool false) 1 info4 rfl (by decide) (by omega) false (ok:=fun _=>True) (okp:=fun _=>True) rfl (fun _ hk=>hk) trivial (of_decide_eq_true (by first | (with_reducible assumption) | assumption)) (Nat.le_trans (Nat.mul_le_mul_right _ (of_decide_eq_true (by first | (with_reducible assumption) | assumption):t378.toNat<=281474976710656)) (by omega)) (Below.refl _ _) (Nat.le_refl _) ?_;intro v386 w16 ho17 hb hg_ hnew_;clear hg_ hnew_;(first | rw [<- Ny385.out] at ho17 | (simp only [Int.reduceToNat] at ho17;rw [<- Ny385.out] at ho17));have n0_:=Aside0.mk (Kd.R_below (by (with_reducible repeat (first | apply Kd.R_alloc | apply Kd.R_drewN | apply Kd.R_drew));exact HO_4.out) hb);have n1_:=Aside0.mk (Kd.S_elder' (by (with_reducible repeat (first | apply Kd.S_alloc | apply Kd.S_drewN | apply Kd.S_drew));exact HO_5.out) (Kd.R_base ho17) hb);have n2_:=Aside0.mk (Kd.R_lower ho17 (below_size (by repeat (first | (with_reducible first | exact HB.out | apply below_alloc | apply pw_below_drewN | apply below_drew1) | exact HB.out))));have n3_:=Aside0.mk (below_step (by repeat (first | (with_reducible first | exact HB.out | apply below_alloc | apply pw_below_drewN | apply below_drew1) | exact HB.out)) hb);clear HO_4;clear HO_5;clear HB;have HO_4:=n0_;have HO_5:=n1_;have HO387:=n2_;have HB:=n3_;clear n0_ n1_ n2_ n3_;clear hb ho17;have p15:0<=(x16_1:Int):=of_decide_eq_true (by first | (with_reducible assumption) | assumption);have q15:(x16_1:Int)<((x5_1.length:Int):Int):=of_decide_eq_true (by first | (with_reducible assumption) | assumption);obtain⟨go15,co15,eo15,gb15,gl15,cl15,HG15⟩:=Kd.S_form HO_5.out (by omega);(first | cases eo15 | (injection eo15 with ea_ en_ ec_;(first | subst ea_ | (injection ea_ with ea_;subst ea_));subst ec_;clear en_));have GB15:=Aside0.mk gb15;have GG15:=Aside0.mk HG15;clear gb15 gl15 HG15;obtain⟨_,ce15,hcl15,hM15,hcc15,hfr15,_,_⟩:=Kd.S_elem HO_5.out [] (x16_1:Int) p15 q15;obtain⟨ve15_0,rfl,ge15_0⟩:=hM15;have hx15_0:=hcc15 0 _ rfl;have hf15_0:=hfr15 0;(try simp only [show ((Kd.slice 4 Kd.bool)).sz=1 from rfl,Nat.mul_one,Nat.add_zero] at hx15_0);(try simp only [show ((Kd.slice 4 Kd.bool)).sz=1 from rfl,Nat.mul_one,Nat.add_zero] at hf15_0);clear hcl15 hcc15 hfr15;(try clear hM15);replace p15:=eq_true p15;replace q15:=eq_true q15;have n_:=Aside0.mk (Kd.S_mono (ok':=(fun k_=>some k_≠(v386:Value).ownBlock)) HO_5.out (fun k_ hk=>hk.2));clear HO_5;have HO_5:=n_;clear n_;have HX18:=Aside0.mk (show Kd.S (Kd.slice 4 Kd.bool) 45 w16 w.heap.size (fun k_=>((fun _=>True)) k_/\¬ ((fun k_=>some k_=(v386:Value).ownBlock)) k_) (.slice (some ⟨go15,0,none⟩) x5_1.length co9) x5_1 from (by (with_reducible repeat (first | apply Kd.S_alloc | apply Kd.S_drewN | apply Kd.S_drew));exact Kd.S_mono HO_5.out (fun k_ hk=>⟨trivial,fun e_=>hk e_⟩)));obtain⟨oki18,ce18,hcl18,hM18,hcc18,hfr18,hoki18,hH18⟩:=Kd.S_elem HX18.out [] (x16_1:Int) (of_decide_eq_true (by first | (with_reducible assumption) | assumption)) (by have h_:(x16_1:Int)<((x5_1.length:Int):Int):=of_decide_eq_true (by first | (with_reducible assumption) | assumption);first | exact h_ | (have e_:=(Kd.S_reads' HO_5.out).1;omega) | simpa using h_);obtain⟨ve18_0,rfl,ge18_0⟩:=hM18;have HP18:=Kd.S_seg hH18 (of_decide_eq_true (by first | (with_reducible assumption) | assumption)) (by have h_:(x16_1:Int)<((x5_1.length:Int):Int):=of_decide_eq_true (by first | (with_reducible assumption) | assumption);first | exact h_ | (have e_:=(Kd.S_reads' HO_5.out).1;omega) | simpa using h_) (seg:=[v386]) (j:=0) (show 1<=1 from by decide) (x':=y385) (Kd.M_row (Kd.R_mono (Kd.R_tight rfl (Kd.R_mono (ok':=fun k_=>((fun _=>True)) k_/\k_≠go15) (Kd.R_apart' (HO387.out) (Kd.S_typed HO_5.out) (by decide)) (fun k_ hk=>⟨trivial,fun e_=>(hk.2) (by rw [e_];rfl)⟩))) (fun _ h_=>Or.inr (h_)))) (fun _ hk=>hk) (fun k_ hk_=>((Kd.R_mono (ok':=fun k_=>((fun _=>True)) k_/\k_≠go15) (Kd.R_apart' (HO387.out) (Kd.S_typed HO_5.out) (by decide)) (fun k_ hk=>⟨trivial,fun e_=>(hk.2) (by rw [e_];rfl)⟩))).1 k_ hk_.symm);have hx18_0:=hcc18 0 _ rfl;(try simp only [show ((Kd.slice 4 Kd.bool)).sz=1 from rfl,Nat.mul_one,Nat.add_zero] at hx18_0);have hf18_0:=hfr18 0;(try simp only [show ((Kd.slice 4 Kd.bool)).sz=1 from rfl,Nat.mul_one,Nat.add_zero] at hf18_0);clear hcl18 hcc18 hfr18 hoki18 hH18;(try clear hM18);(try simp only [show ((Kd.slice 4 Kd.bool)).sz=1 from rfl,Nat.mul_one,Nat.add_zero] at HP18)) | ((with_reducible refine gate_store (t:=45) (p:=23) rfl ?_);refine store_event (t:=45) (p:=23) (v:=?vo_w19) (w1:=(w16.setCell ⟨go15,(x16_1:Int).toNat,none⟩ (v386))) ?hg ?ho ?hn ?hr ?_;(case ho=>rfl);(case hg=>rfl);(case hn=>rfl);(case hr=>first | (go_simp;done) | (go_simp;rfl) | (obtain⟨Av_,cv_,ev_⟩:=Kd.R_slice HO387.out;subst ev_;first | (go_simp;done) | (go_simp;rfl)));intro w19 hw;have hg:w16.grownBy w19 (some go15):=(by rw [hw];exact HP18.2);have hp_:Kd.S (Kd.slice 4 Kd.bool) 45 w19 w.heap.size (fun _=>True) (.slice (some ⟨go15,0,none⟩) x5_1.length co9) y388:=(by rw [hw,Ny388.out];exact HP18.1);clear HP18;have n0_:=Aside0.mk (Kd.R_over' (v:=(.slice (some ⟨go15,0,none⟩) x5_1.length co9)) (by (with_reducible repeat (first | apply Kd.R_alloc | apply Kd.R_drewN | apply Kd.R_drew));exact HO_4.out) (Kd.S_typed HO_5.out) (by decide) hg);have n1_:=Aside0.mk (hp_);have n2_:=Aside0.mk ((by rw [hw];exact below_set (HB.out) GB15.out:Below w.heap.size w w19));clear HO_4;clear HO_5;clear HB;clear HO387;have HO_4:=n0_;have HO_5:=n1_;have HB:=n2_;clear n0_ n1_ n2_;clear hg hw hp_;have p389:0<=(x16_1:Int):=of_decide_eq_true (by first | (with_reducible assumption) | assumption);have q389:x16_1<(y388.length:Int):=(by have h_:(x16_1:Int)<((x5_1.length:Int):Int):=of_decide_eq_true (by first | (with_reducible assumption) | assumption);first | (have e_:=(Kd.S_reads' HO_5.out).1;omega) | simpa only [Ny388.out,List.length_set] using h_);have ql389:((x16_1:Int)<((x5_1.length:Int):Int))=True:=eq_true (of_decide_eq_true (by first | (with_reducible assumption) | assumption));obtain⟨ad389,A389_0,c389_0,e389,hx389_0,hl389_0,hi389_0⟩:=at_L1 (Kd.S_reads' HO_5.out).2.2 x16_1 p389 q389;obtain rfl:(⟨go15,0,none⟩:Addr)=ad389:=(by injection e389);obtain⟨ce389,hce389,hMe389,hcc389⟩:=Kd.S_get HO_5.out [] x16_1 p389 (by first | exact q389 | exact of_decide_eq_true (by first | (with_reducible assumption) | assumption) | (have e_:=(Kd.S_reads' HO_5.out).1;omega));obtain⟨ve389_0,rfl,ge389_0⟩:=hMe389;have hv389_0:=hcc389 0 _ rfl;rw [Nat.add_zero,show ((Kd.slice 4 Kd.bool)).sz=1 from rfl,Nat.mul_one] at hv389_0;replace hv389_0:=Option.some.inj (hv389_0.symm.trans hx389_0);rw [hv389_0] at ge389_0;have HL389_0:=Aside0.mk (show Kd.R Kd.bool 4 _ _ _ _ (rd_L1 y388 x16_1) from ge389_0);clear hv389_0 ge389_0;have HX389_0:=Aside0.mk hx389_0;clear hcc389 hce389;(first | simp only [add_plain] at hx389_0 | simp only [add_at] at hx389_0 | simp only [Addr.add,Nat.zero_add] at hx389_0 | skip);have HR389_0:=Aside0.mk hi389_0;have HC389_0:=Aside0.mk hl389_0;clear hi389_0 hl389_0;replace p389:=eq_true p389;replace q389:=eq_true q389))
          go_loopg [29] k1 (fun kq v29 w'=>∃ (x5_2:List (List Bool)) (x29_2:Int),v29=.int .i64 x29_2/\Aside0 (spec_QRGiven.l1 kq a0 t378 t379 x5_2 x16_1 (y382.length:Int) x16_1 ((rd_L1 y388 x16_1).length:Int) x29_2=some r)/\Aside0 (kq<=k1)/\Aside0 (Kd.R (Kd.int .i64) 3 w' w.heap.size (fun _=>True) v380 t379)/\Aside0 (Kd.S (Kd.slice 4 Kd.bool) 45 w' w.heap.size (fun _=>True) (.slice (some ⟨go15,0,none⟩) x5_1.length co9) x5_2)/\Aside0 (Below w.heap.size w w'))
          case atStart=>exact⟨(y388),(0),(by first | rfl | (simp;done) | (simp [*];done)),H',⟨Nat.le_refl _⟩,⟨by (try simp only [hl5_1]);(with_reducible repeat (first | apply Kd.R_alloc | apply Kd.R_drewN | apply Kd.R_drew));exact HO_4.out⟩,⟨by (try simp only [hl5_1]);(with_reducible repeat (first | apply Kd.S_alloc | apply Kd.S_drewN | apply Kd.S_drew));exact HO_5.out⟩,⟨by repeat (first | (with_reducible first | exact HB.out | apply below_alloc | apply pw_below_drewN | apply below_drew1) | exact HB.out)⟩⟩
          case round=>
           clear H'
           try clear c1
           try clear p1
           try clear q1
           try clear hx1
           try clear hf1
           try clear p2
           try clear c3
           try clear p3
           try clear q3
           try clear hx3
           try clear c4
           try clear c4b0
           try clear c4b1
           try clear c5
           try clear c5b0
           try clear c5b1
           try clear c10
           try clear c10b0
           try clear c11
           try clear c11b0
           try clear c11b1
           try clear c12
           try clear c12b0
           try clear c12b1
           try clear c13
           try clear c13b0
           try clear c14
           try clear c14b0
           try clear c15
           try clear p15
           try clear q15
           try clear hx15
           try clear hf15
           try clear c18
           try clear hx18
           try clear hf18
           try clear hx15_0
           try clear hx18_0
           try clear hx389_0
           try clear p15
           try clear p2
           try clear p389
           try clear q15
           try clear q389
           obtain⟨x5_2,x29_2,rfl,HA,HK2,HO_4,HO_5,HB⟩:=hrel
           have hl5_2:=(Kd.S_reads' HO_5.out).1
           rw [hl5_2] at HO_5
           (try simp only [hl5_2])
           (try simp only [hl5_2] at HO_4)
           cases gk with
           | zero=>exact absurd HA.out (by simp [spec_QRGiven.l1])
           | succ k2=>
            have H:=HA.out
            clear HA
            simp only [spec_QRGiven.l1] at H
            by_cases c20:x29_2<((rd_L1 y388 x16_1).length:Int)
            ·rw [if_pos c20] at H
             have c20b0:decide (x29_2<((rd_L1 y388 x16_1).length:Int))=true:=decide_eq_true c20
             clear c20
             by_cases c21:0<=x16_1
             ·rw [if_pos c21] at H
              have c21b0:decide (0<=x16_1)=true:=decide_eq_true c21
              clear c21
              by_cases c22:x16_1<(x5_2.length:Int)
              ·rw [if_pos c22] at H
               have c22b0:decide (x16_1<(x5_2.length:Int))=true:=decide_eq_true c22
               clear c22
               replace H:=Option.bind_eq_some_iff.mp H
               obtain⟨t391,A230,H⟩:=H
               replace H:(if 0<=x29_2 then (if x29_2<((rd_L1 x5_2 x16_1).length:Int) then (spec_QRGiven.l1 k2 a0 t378 t379 (x5_2.set (x16_1:Int).toNat ((rd_L1 x5_2 x16_1).set (x29_2:Int).toNat t391)) x16_1 (y382.length:Int) x16_1 ((rd_L1 y388 x16_1).length:Int) (wrap64 (x29_2+1))) else (none)) else (none))=some r:=H
               have A23:=Aside0.mk A230
               clear A230
               by_cases c24:0<=x29_2
               ·rw [if_pos c24] at H
                have c24b0:decide (0<=x29_2)=true:=decide_eq_true c24
                clear c24
                by_cases c25:x29_2<((rd_L1 x5_2 x16_1).length:Int)
                ·rw [if_pos c25] at H
                 have c25b0:decide (x29_2<((rd_L1 x5_2 x16_1).length:Int))=true:=decide_eq_true c25
                 clear c25
                 obtain⟨y392,hy392⟩:∃ y_:List Bool,y_=((rd_L1 x5_2 x16_1).set (x29_2:Int).toNat t391):=⟨_,rfl⟩
                 replace H:(spec_QRGiven.l1 k2 a0 t378 t379 (x5_2.set (x16_1:Int).toNat y392) x16_1 (y382.length:Int) x16_1 ((rd_L1 y388 x16_1).length:Int) (wrap64 (x29_2+1)))=some r:=by first | (rw [hy392];with_reducible exact H) | (have H2_:=(Option.bind_some _ _).symm.trans H;rw [hy392];with_reducible exact H2_) | (have H2_:=(Option.bind_some _ _).symm.trans H;with_reducible exact H2_) | with_reducible exact H | (rw [hy392];exact H) | exact H
                 have Ny392:=Aside0.mk hy392
                 clear hy392
                 obtain⟨y394,hy394⟩:∃ y_:List (List Bool),y_=(x5_2.set (x16_1:Int).toNat y392):=⟨_,rfl⟩
                 replace H:(spec_QRGiven.l1 k2 a0 t378 t379 y394 x16_1 (y382.length:Int) x16_1 ((rd_L1 y388 x16_1).length:Int) (wrap64 (x29_2+1)))=some r:=by first | (rw [hy394];with_reducible exact H) | (have H2_:=(Option.bind_some _ _).symm.trans H;rw [hy394];with_reducible exact H2_) | (have H2_:=(Option.bind_some _ _).symm.trans H;with_reducible exact H2_) | with_reducible exact H | (rw [hy394];exact H) | exact H
                 have Ny394:=Aside0.mk hy394
                 clear hy394
                 have H':=Aside0.mk H
                 clear H
                 try go_wp2
                 have n0_:=Aside0.mk (Kd.R_drew HO_4.out)
                 have n1_:=Aside0.mk (Kd.S_drew HO_5.out)
                 have n2_:=Aside0.mk (below_drew1 HB.out)
                 clear HO_4
                 clear HO_5
                 clear HB
                 have HO_4:=n0_
                 have HO_5:=n1_
                 have HB:=n2_
                 clear n0_ n1_ n2_
                 have p390:0<=(x16_1:Int):=of_decide_eq_true (by first | (with_reducible assumption) | assumption)
                 have q390:x16_1<(x5_2.length:Int):=of_decide_eq_true (by first | (with_reducible assumption) | assumption)
                 obtain⟨ad390,A390_0,c390_0,e390,hx390_0,hl390_0,hi390_0⟩:=at_L1 (Kd.S_reads' HO_5.out).2.2 x16_1 p390 q390
                 obtain rfl:(⟨go15,0,none⟩:Addr)=ad390:=(by injection e390)
                 obtain⟨ce390,hce390,hMe390,hcc390⟩:=Kd.S_get HO_5.out [] x16_1 p390 (by first | exact q390 | exact of_decide_eq_true (by first | (with_reducible assumption) | assumption) | (have e_:=(Kd.S_reads' HO_5.out).1;omega))
                 obtain⟨ve390_0,rfl,ge390_0⟩:=hMe390
                 have hv390_0:=hcc390 0 _ rfl
                 rw [Nat.add_zero,show ((Kd.slice 4 Kd.bool)).sz=1 from rfl,Nat.mul_one] at hv390_0
                 replace hv390_0:=Option.some.inj (hv390_0.symm.trans hx390_0)
                 rw [hv390_0] at ge390_0
                 have HL390_0:=Aside0.mk (show Kd.R Kd.bool 4 _ _ _ _ (rd_L1 x5_2 x16_1) from ge390_0)
                 clear hv390_0 ge390_0
                 have HX390_0:=Aside0.mk hx390_0
                 clear hcc390 hce390
                 (first | simp only [add_plain] at hx390_0 | simp only [add_at] at hx390_0 | simp only [Addr.add,Nat.zero_add] at hx390_0 | skip)
                 have HR390_0:=Aside0.mk hi390_0
                 have HC390_0:=Aside0.mk hl390_0
                 clear hi390_0 hl390_0
                 replace p390:=eq_true p390
                 replace q390:=eq_true q390
                 obtain⟨Ao28,co28,eo28⟩:=Kd.R_slice HO_4.out
                 (first | subst eo28 | (injection eo28 with f1_ f2_ f3_;have f4_:=f1_.symm;have f5_:=f3_.symm;clear f1_ f2_ f3_;subst f4_;subst f5_))
                 refine start_ (n:=12) (S:=fun w'=>w'.cell? ⟨go15,(x16_1).toNat,none⟩=some (.slice A390_0 (rd_L1 x5_2 x16_1).length c390_0)) (ds:=[11]) #[false,false,false,false,false,false,false,false,false,false,false,false] (by kernel_rfl) rfl rfl (hx390_0) (fun hHeld=>?_);refine with_tabW spec_QRGiven.tab11 spec_QRGiven.bits11 (fun HT_ HW_=>?_)
                 generalize wr.drew=w27 at HO_4 HO_5 HB HL390_0 HR390_0 HX390_0 hx390_0 hHeld ⊢
                 refine pure_ (i:=0) (N:=some 32) (v:=?_) (a':=?_) #[true,false,false,false,false,false,false,false,false,false,false,false] rfl rfl (any_of HT_.out (by kernel_rfl)) (fun _ _ _ h=>h) (Or.inl ⟨by rfl,?_⟩) ?_ ?_
                 rotate_left
                 ·intro w'
                  go_simp
                  with_reducible rfl
                 rotate_left
                 ·simp only [Act.put,List.setIfInBounds_toArray,List.set_cons_zero,List.set_cons_succ,i64_w,i32_w]
                  rfl
                 refine pure_ (i:=1) (N:=some 33) (v:=?_) (a':=?_) #[true,true,false,false,false,false,false,false,false,false,false,false] rfl rfl (any_of HT_.out (by kernel_rfl)) (fun _ _ _ h=>h) (Or.inl ⟨by rfl,?_⟩) ?_ ?_
                 rotate_left
                 ·intro w'
                  go_simp
                  with_reducible rfl
                 rotate_left
                 ·simp only [Act.put,List.setIfInBounds_toArray,List.set_cons_zero,List.set_cons_succ,i64_w,i32_w]
                  rfl
                 refine pure_ (i:=2) (N:=some 34) (v:=?_) (a':=?_) #[true,true,true,false,false,false,false,false,false,false,false,false] rfl rfl (any_of HT_.out (by kernel_rfl)) (fun _ _ _ h=>h) (Or.inl ⟨by rfl,?_⟩) ?_ ?_
                 rotate_left
                 ·intro w'
                  go_simp
                  with_reducible rfl
                 rotate_left
                 ·simp only [Act.put,List.setIfInBounds_toArray,List.set_cons_zero,List.set_cons_succ,i64_w,i32_w]
                  rfl
                 refine pure_ (i:=4) (N:=some 36) (v:=?_) (a':=?_) #[true,true,true,false,true,false,false,false,false,false,false,false] rfl rfl (any_of HT_.out (by kernel_rfl)) (fun _ _ _ h=>h) (Or.inl ⟨by rfl,?_⟩) ?_ ?_
                 rotate_left
                 ·intro w'
                  go_simp
                  with_reducible rfl
                 rotate_left
                 ·simp only [Act.put,List.setIfInBounds_toArray,List.set_cons_zero,List.set_cons_succ,i64_w,i32_w]
                  rfl
                 refine pure_ (i:=5) (N:=some 37) (v:=?_) (a':=?_) #[true,true,true,false,true,true,false,false,false,false,false,false] rfl rfl (any_of HT_.out (by kernel_rfl)) (fun _ _ _ h=>h) (Or.inl ⟨by rfl,?_⟩) ?_ ?_
                 rotate_left
                 ·intro w'
                  go_simp
                  with_reducible rfl
                 rotate_left
                 ·simp only [Act.put,List.setIfInBounds_toArray,List.set_cons_zero,List.set_cons_succ,i64_w,i32_w]
                  rfl
                 refine pure_ (i:=6) (N:=some 38) (v:=?_) (a':=?_) #[true,true,true,false,true,true,true,false,false,false,false,false] rfl rfl (any_of HT_.out (by kernel_rfl)) (fun _ _ _ h=>h) (Or.inl ⟨by rfl,?_⟩) ?_ ?_
                 rotate_left
                 ·intro w'
                  go_simp
                  with_reducible rfl
                 rotate_left
                 ·simp only [Act.put,List.setIfInBounds_toArray,List.set_cons_zero,List.set_cons_succ,i64_w,i32_w]
                  rfl
                 refine pure_ (i:=7) (N:=some 39) (v:=?_) (a':=?_) #[true,true,true,false,true,true,true,true,false,false,false,false] rfl rfl (any_of HT_.out (by kernel_rfl)) (fun _ _ _ h=>h) (Or.inl ⟨by rfl,?_⟩) ?_ ?_
                 rotate_left
                 ·intro w'
                  go_simp
                  with_reducible rfl
                 rotate_left
                 ·simp only [Act.put,List.setIfInBounds_toArray,List.set_cons_zero,List.set_cons_succ,i64_w,i32_w]
                  rfl
                 refine pure_ (i:=8) (N:=some 40) (v:=?_) (a':=?_) #[true,true,true,false,true,true,true,true,true,false,false,false] rfl rfl (any_of HT_.out (by kernel_rfl)) (fun _ _ _ h=>h) (Or.inl ⟨by rfl,?_⟩) ?_ ?_
                 rotate_left
                 ·intro w'
                  go_simp
                  with_reducible rfl
                 rotate_left
                 ·simp only [Act.put,List.setIfInBounds_toArray,List.set_cons_zero,List.set_cons_succ,i64_w,i32_w]
                  rfl
                 refine take_ (i:=3) (N:=some 35) (v:=?_) (a':=?_) #[true,true,true,true,true,true,true,true,true,false,false,false] rfl rfl (take_ofW HT_.out HW_.out (by kernel_rfl)) (fun _ _ _ h=>h) (Or.inl ⟨by rfl,?_⟩) hHeld ?_ ?_
                 rotate_left
                 ·intro w' s0
                  go_simp
                  with_reducible rfl
                 rotate_left
                 ·simp only [Act.put,List.setIfInBounds_toArray,List.set_cons_zero,List.set_cons_succ,i64_w,i32_w]
                  rfl
                 refine one_ (i:=9) (N:=some 41) #[true,true,true,true,true,true,true,true,true,true,false,false] rfl rfl (one_of HT_.out (by kernel_rfl)) (by decide) (fun K hK=>?_)
                 refine goes_ Tryz.func49 (by kernel_rfl) rfl #[.int .i64 a0,.slice Ao28 t379.length co28,.int .i64 x16_1,.int .i64 x29_2] (by rfl) rfl rfl (by (try simp only [List.map_toArray,List.map_cons,List.map_nil]);first | done | rfl | (simp only [List.length_drop,List.length_take];rfl)) ?_
                 with_reducible refine (spec_qrGiven.calls k2 a0 _ _ t379 x16_1 x29_2 t391 _ ?side1 ?side2 A23.out).mono ?_
                 (case side1=>repeat (first | exact (Kd.R_reads' HO_4.out).2.2 | (with_reducible refine Kd.C_alloc ?_ _) | (with_reducible refine Kd.C_drewN ?_ _) | (with_reducible refine Kd.C_drew ?_)))
                 (case side2=>exact (Kd.R_reads' HO_4.out).2.1)
                 rintro e w29 ⟨rfl,hb⟩
                 have HS0_:=(hb.cell (World.block_lt_of_cell? _ _ (hHeld))).trans (hHeld)
                 refine⟨_,rfl,?_⟩
                 have n0_:=Aside0.mk (Kd.R_below (by (with_reducible repeat (first | apply Kd.R_alloc | apply Kd.R_drewN | apply Kd.R_drew));exact HO_4.out) hb)
                 have n1_:=Aside0.mk (Kd.S_below (by (with_reducible repeat (first | apply Kd.S_alloc | apply Kd.S_drewN | apply Kd.S_drew));exact HO_5.out) hb)
                 have n2_:=Aside0.mk (Kd.R_below (by (with_reducible repeat (first | apply Kd.R_alloc | apply Kd.R_drewN | apply Kd.R_drew));exact HL390_0.out) hb)
                 have n3_:=Aside0.mk (Kd.C_below (by repeat (first | (with_reducible exact HR390_0.out) | (with_reducible refine Kd.C_alloc ?_ _) | (with_reducible refine Kd.C_drewN ?_ _) | (with_reducible refine Kd.C_drew ?_) | exact HR390_0.out)) hb)
                 have n4_:=Aside0.mk (pw_cell_below hb HX390_0.out)
                 have n5_:=Aside0.mk (below_step (by repeat (first | (with_reducible first | exact HB.out | apply below_alloc | apply pw_below_drewN | apply below_drew1) | exact HB.out)) hb)
                 clear HO_4
                 clear HO_5
                 clear HL390_0
                 clear HR390_0
                 clear HX390_0
                 clear HB
                 have HO_4:=n0_
                 have HO_5:=n1_
                 have HL390_0:=n2_
                 have HR390_0:=n3_
                 have HX390_0:=n4_
                 have HB:=n5_
                 clear n0_ n1_ n2_ n3_ n4_ n5_
                 (try clear hb)
                 (try clear hb2)
                 (try clear hk)
                 (try clear hi)
                 have p26:0<=(x29_2:Int):=of_decide_eq_true (by first | (with_reducible assumption) | assumption)
                 have q26:(x29_2:Int)<(((rd_L1 x5_2 x16_1).length:Int):Int):=of_decide_eq_true (by first | (with_reducible assumption) | assumption)
                 obtain⟨go26,co26,eo26,gb26,gl26,cl26,HG26⟩:=Kd.R_form HL390_0.out (by omega)
                 (first | cases eo26 | (injection eo26 with ea_ en_ ec_;(first | subst ea_ | (injection ea_ with ea_;subst ea_));subst ec_;clear en_))
                 have GB26:=Aside0.mk gb26
                 have GG26:=Aside0.mk HG26
                 clear gb26 gl26 HG26
                 obtain⟨hx26_0,hf26_0⟩:=Kd.R_celln false HL390_0.out (x29_2:Int) p26 q26
                 replace p26:=eq_true p26
                 replace q26:=eq_true q26
                 have hq30:(x16_1:Int)<(x5_2.length:Int):=(by have h_:(x16_1:Int)<((x5_2.length:Int):Int):=of_decide_eq_true (by first | (with_reducible assumption) | assumption);first | exact h_ | (have e_:=(Kd.S_reads' HO_5.out).1;omega) | simpa only [List.length_set,List.length_set] using h_)
                 obtain⟨oki30,ce30,hcl30,hM30,hcc30,hok30,hbk30⟩:=Kd.S_borrow HO_5.out [] (x16_1:Int) (of_decide_eq_true (by first | (with_reducible assumption) | assumption)) hq30
                 obtain⟨ve30_0,rfl,ge30_0⟩:=hM30
                 have hv30:=hcc30 0 _ rfl
                 rw [Nat.add_zero,show ((Kd.slice 4 Kd.bool)).sz=1 from rfl,Nat.mul_one] at hv30
                 replace hv30:=Option.some.inj (hv30.symm.trans HX390_0.out)
                 subst hv30
                 clear hcc30 hcl30
                 replace ge30_0:=(show Kd.R Kd.bool 4 _ _ _ _ (rd_L1 x5_2 x16_1) from ge30_0)
                 have HP30:=Kd.R_putg ge30_0 (x29_2:Int) t391
                 rw [<- Ny392.out] at HP30
                 have HS30:=hbk30 HP30.2 (fun k_ e_=>by injection e_ with e_;subst e_;exact ge30_0.1 _ rfl) (x':=y392) (Kd.M_row HP30.1)
                 rw [<- Ny394.out] at HS30
                 have HQ30:=Aside0.mk HS30
                 clear HP30 HS30 hbk30 hok30
                 refine hK.out _ _ (HS0_) (fun hHeld=>?_)
                 clear hK K
                 refine norm_ (a':=?_) ?_ ?_
                 rotate_left
                 ·show Act.put _ (some 41) _=_
                  simp only [Act.put,List.setIfInBounds_toArray,List.set_cons_zero,List.set_cons_succ,i64_w,i32_w]
                  rfl
                 refine pure_ (i:=10) (N:=some 42) (v:=?_) (a':=?_) #[true,true,true,true,true,true,true,true,true,true,true,false] rfl rfl (any_of HT_.out (by kernel_rfl)) (fun _ _ _ h=>h) (Or.inl ⟨by rfl,?_⟩) ?_ ?_
                 rotate_left
                 ·intro w'
                  go_simp
                  with_reducible rfl
                 rotate_left
                 ·simp only [Act.put,List.setIfInBounds_toArray,List.set_cons_zero,List.set_cons_succ,i64_w,i32_w]
                  rfl
                 refine last_ (i:=11) (N:=none) #[true,true,true,true,true,true,true,true,true,true,true,true] rfl rfl (one_of HT_.out (by kernel_rfl)) (by decide) (fun K hK=>?_)
                 refine skip_ (w1:=?_) (by rfl) rfl ?_ ?_
                 rotate_left
                 ·go_simp
                  rfl
                 refine hK.out _ _ ?_
                 clear hK K
                 refine done_ (done_of HT_.out (by kernel_rfl)) ?_
                 try go_wp2
                 (try simp only [<- hl5_2])
                 go_roundg k2
                 case measure=>have:=HK1.out;have:=HK2.out;omega
                 case rel=>exact⟨(y394),(wrap64 (x29_2+1)),(by first | rfl | (simp;done) | (simp [*];done)),H',⟨by have:=HK1.out;have:=HK2.out;omega⟩,⟨by (try simp only [hl5_1]);(try simp only [hl5_2]);(with_reducible repeat (first | apply Kd.R_alloc | apply Kd.R_drewN | apply Kd.R_drew));exact Kd.R_mono (Kd.R_far (p:=⟨go26,(x29_2:Int).toNat,none⟩) (Kd.R_types HO_4.out GG26.out (by decide)) (fun _ hk=>hk.2) (.bool t391)) (fun _ hk=>trivial)⟩,⟨by (try simp only [hl5_1]);(try simp only [hl5_2]);(with_reducible repeat (first | apply Kd.S_alloc | apply Kd.S_drewN | apply Kd.S_drew));exact HQ30.out⟩,⟨by repeat (first | (with_reducible first | exact HB.out | apply below_alloc | apply pw_below_drewN | apply below_drew1 | refine below_set ?_ GB26.out) | exact HB.out)⟩⟩
                ·rw [if_neg c25] at H
                 exact absurd H (by simp)
               ·rw [if_neg c24] at H
                exact absurd H (by simp)
              ·rw [if_neg c22] at H
               exact absurd H (by simp)
             ·rw [if_neg c21] at H
              exact absurd H (by simp)
            ·rw [if_neg c20] at H
             have c20b0:decide (x29_2<((rd_L1 y388 x16_1).length:Int))=false:=decide_eq_false c20
             clear c20
             have H':=Aside0.mk H
             clear H
             go_wp2
             (try simp only [<- hl5_1,<- hl5_2])
             go_roundg k2
             case measure=>have:=HK1.out;have:=HK2.out;omega
             case rel=>exact⟨(x5_2),(wrap64 (x16_1+1)),(by first | rfl | (simp;done) | (simp [*];done)),H',⟨by have:=HK1.out;have:=HK2.out;omega⟩,⟨by (try simp only [hl5_1]);(try simp only [hl5_2]);(with_reducible repeat (first | apply Kd.R_alloc | apply Kd.R_drewN | apply Kd.R_drew));exact HO_4.out⟩,⟨by (try simp only [hl5_1]);(try simp only [hl5_2]);(with_reducible repeat (first | apply Kd.S_alloc | apply Kd.S_drewN | apply Kd.S_drew));exact HO_5.out⟩,⟨by repeat (first | (with_reducible first | exact HB.out | apply below_alloc | apply pw_below_drewN | apply below_drew1) | exact HB.out)⟩⟩
         ·rw [if_neg c14] at H
          exact absurd H (by simp)
        ·rw [if_neg c13] at H
         exact absurd H (by simp)
       ·rw [if_neg c12] at H
        exact absurd H (by simp)
      ·rw [if_neg c11] at H
       exact absurd H (by simp)
     ·rw [if_neg c10] at H
      have c10b0:decide (x16_1<(y382.length:Int))=false:=decide_eq_false c10
      have c10b9:decide (x16_1<(x5_1.length:Int))=false:=by first | assumption | (have e_:=hl5_1;first | (rw [e_];exact c10b0) | (rw [<- e_];exact c10b0) | (have c_:=of_decide_eq_false c10b0;exact decide_eq_false (by omega)))
      clear c10
      obtain rfl:=Option.some.inj H
      go_wp2
      go_ret
      exact⟨_,by first | rfl | (simp [errW_none,errW_some]<;>rfl) | (simp [*,errW_none,errW_some]<;>rfl),by (with_reducible repeat (first | apply Kd.S_alloc | apply Kd.S_drewN | apply Kd.S_drew));exact HO_5.out,by repeat (first | (with_reducible first | exact HB.out | apply below_alloc | apply pw_below_drewN | apply below_drew1) | exact HB.out)⟩
  ·rw [if_neg c5] at H
   exact absurd H (by simp)
 ·rw [if_neg c4] at H
  exact absurd H (by simp)
end Go.Proofs.YtgccjgpdjkhpdaaGreat.F
namespace Go.Proofs.YtgccjgpdjkhpdaaGreat.B
open Go.RowKit Go.Proofs.YtgccjgpdjkhpdaaGreatW.PrintWords Go.Proofs.YtgccjgpdjkhpdaaGreatW.PrintLast Go.Proofs.YtgccjgpdjkhpdaaGreatW.PrintMore
set_option linter.unusedVariables false
set_option linter.unusedSimpArgs false
theorem alY_iff (last i y:Nat):∀ (bs:List Nat) (k:Nat),alY last i y k bs=true↔∃ j,j<bs.length/\corner last i (k+j)=false/\bs.getD j 0-2<=y/\y<bs.getD j 0-2+5:=by
 intro bs
 induction bs with
 | nil=>intro k;simp [alY]
 | cons b bs ih=>
  intro k
  rw [alY,Bool.or_eq_true,ih,Bool.and_eq_true,Bool.not_eq_true',decide_eq_true_eq]
  constructor
  ·rintro (⟨h1,h2⟩ | ⟨j,h1,h2,h3⟩)
   ·exact⟨0,by simp,by simpa using h1,by simpa using h2⟩
   ·exact⟨j+1,by simpa using h1,by rw [show k+(j+1)=k+1+j by omega];exact h2,by simpa using h3⟩
  ·rintro⟨j,h1,h2,h3⟩
   cases j with
   | zero=>exact .inl ⟨by simpa using h2,by simpa using h3⟩
   | succ j=>exact .inr ⟨j,by simpa using h1,by rw [show k+1+j=k+(j+1) by omega];exact h2,by simpa using h3⟩
theorem alX_iff (last:Nat)(cs:List Nat)(x y:Nat):∀ (bs:List Nat) (i:Nat),alX last cs x y i bs=true↔∃ j,j<bs.length/\(bs.getD j 0-2<=x/\x<bs.getD j 0-2+5)/\alY last (i+j) y 0 cs=true:=by
 intro bs
 induction bs with
 | nil=>intro i;simp [alX]
 | cons a bs ih=>
  intro i
  rw [alX,Bool.or_eq_true,ih,Bool.and_eq_true,decide_eq_true_eq]
  constructor
  ·rintro (⟨h1,h2⟩ | ⟨j,h1,h2,h3⟩)
   ·exact⟨0,by simp,by simpa using h1,by simpa using h2⟩
   ·exact⟨j+1,by simpa using h1,by simpa using h2,by rw [show i+(j+1)=i+1+j by omega];exact h3⟩
  ·rintro⟨j,h1,h2,h3⟩
   cases j with
   | zero=>exact .inl ⟨by simpa using h2,by simpa using h3⟩
   | succ j=>exact .inr ⟨j,by simpa using h1,by simpa using h2,by rw [show i+1+j=i+(j+1) by omega];exact h3⟩
theorem alB_iff (cs:List Nat)(x y:Nat):alB cs x y=true↔∃ i j,i<cs.length/\j<cs.length/\corner (cs.length-1) i j=false/\(cs.getD i 0-2<=x/\x<cs.getD i 0-2+5)/\(cs.getD j 0-2<=y/\y<cs.getD j 0-2+5):=by
 unfold alB
 rw [alX_iff]
 constructor
 ·rintro⟨i,h1,h2,h3⟩
  obtain⟨j,h4,h5,h6⟩:=(alY_iff _ _ _ _ _).1 h3
  exact⟨i,j,h1,h4,by simpa using h5,h2,h6⟩
 ·rintro⟨i,j,h1,h2,h3,h4,h5⟩
  exact⟨i,h1,h4,(alY_iff _ _ _ _ _).2 ⟨j,h2,by simpa using h3,h5⟩⟩
theorem ctrs_ints:∀ v:Fin 40,cent (v.val+1)=(ctrs (v.val+1)).map (fun n:Nat=>(n:Int))/\(∀ x∈ctrs (v.val+1),6<=x/\x<=900):=by decide +kernel
theorem ctrs_int (v:Nat)(h:1<=v/\v<=40):cent v=(ctrs v).map (fun n:Nat=>(n:Int))/\(∀ x∈ctrs v,6<=x/\x<=900):=by
 have:=ctrs_ints ⟨v-1,by omega⟩
 simp only [show v-1+1=v by omega] at this
 exact this
theorem align_at (v:Nat)(hv:1<=v/\v<=40)(r c:Nat)(hr:r<=900)(hc:c<=900):∃ al:Int,Ev (fun k=>F.spec_qrAlign.f k (cent v) r c) al/\decide (al≥0)=alB (ctrs v) c r:=by
 obtain⟨e,h6⟩:=ctrs_int v hv
 obtain⟨hcr,hlen⟩:=cent_run v hv
 rw [e] at hlen ⊢
 obtain⟨cs,hcs⟩:∃ cs,ctrs v=cs:=⟨_,rfl⟩
 rw [hcs] at h6 hlen ⊢
 rw [List.length_map] at hlen
 have hrd:∀ i:Nat,rd (cs.map fun n:Nat=>(n:Int)) i=((cs.getD i 0:Nat):Int):=fun i=>by
  unfold rd
  rw [List.getD_eq_getElem?_getD,List.getD_eq_getElem?_getD,List.getElem?_map,Int.toNat_natCast]
  cases cs[i]?<;>rfl
 have hcl:∀ i,i<cs.length->6<=cs.getD i 0/\cs.getD i 0<=900:=fun i hi=>by
  rw [List.getD_eq_getElem?_getD,List.getElem?_eq_getElem hi]
  exact h6 _ (List.getElem_mem hi)
 have hcl2:∀ i,cs.getD i 0<=900:=fun i=>by
  by_cases hi:i<cs.length
  ·exact (hcl i hi).2
  ·rw [List.getD_eq_getElem?_getD,List.getElem?_eq_none (by omega)];exact Nat.zero_le _
 obtain⟨al,ha,hq⟩:=align_run (cs.map fun n:Nat=>(n:Int)) r c (by rw [List.length_map];exact hlen) (by omega) (by omega) (fun i=>by rw [hrd];have:=hcl2 i;omega)
 refine⟨al,ha,?_⟩
 rw [Bool.eq_iff_iff,decide_eq_true_eq,alB_iff,ge_iff_le,hq]
 simp only [List.length_map]
 have one:∀ i j:Nat,i<cs.length->j<cs.length->(hitI (cs.map fun n:Nat=>(n:Int)) ((cs.length:Int)-1) r c i j↔(corner (cs.length-1) j i=false/\(cs.getD j 0-2<=c/\c<cs.getD j 0-2+5)/\(cs.getD i 0-2<=r/\r<cs.getD i 0-2+5))):=fun i j hi hj=>by
  unfold hitI cornI corner
  rw [hrd,hrd,decide_eq_false_iff_not]
  have h1:=hcl i hi
  have h2:=hcl j hj
  omega
 constructor
 ·rintro⟨i,j,hi,hj,h⟩
  exact⟨j,i,hj,hi,(one i j hi hj).1 h⟩
 ·rintro⟨i,j,hi,hj,h⟩
  exact⟨j,i,hj,hi,(one j i hj hi).2 h⟩
theorem given_fp (v r c:Nat)(al:Int)(cs:List Nat)(hv:1<=v/\v<=40)(hr:r<17+4*v)(hc:c<17+4*v)(ha:decide (al≥0)=alB cs c r):givenP (v:Int) (17+4*(v:Int)) r c al=fpB v cs c r:=by
 unfold givenP fpB
 rw [ha]
 cases alB cs c r
 ·unfold inReg
  rw [Bool.eq_iff_iff]
  simp only [Bool.or_eq_true,Bool.and_eq_true,decide_eq_true_eq,Bool.false_eq_true,or_false,false_or]
  omega
 ·simp
theorem givenRows (v:Nat)(hv:1<=v/\v<=40):Ev (fun k=>F.spec_QRGiven.f k v) (rowsOfB (17+4*v) (fun r c=>fpB v (ctrs v) c r) (17+4*v)):=by
 obtain⟨cf,hcf⟩:∃ cf:Nat->Nat->Bool,cf=fun r c=>fpB v (ctrs v) c r:=⟨_,rfl⟩
 obtain⟨n,hn⟩:∃ n,17+4*v=n:=⟨_,rfl⟩
 rw [<- hcf]
 have hcell:∀ r c:Nat,r<n->c<n->Ev (fun k=>F.spec_qrGiven.f k v (cent v) r c) (cf r c):=fun r c hr hc=>by
  obtain⟨al,ha,hd⟩:=align_at v hv r c (by omega) (by omega)
  have:=given_run v (17+4*(v:Int)) r c al (cent v) (by omega) rfl ha
  rw [given_fp v r c al (ctrs v) hv (by omega) (by omega) hd] at this
  rw [hcf]
  exact this
 clear hcf
 rw [hn]
 have hnv:(n:Int)=17+4*(v:Int):=by omega
 have H0:∀ (d i:Nat),i+d=n->Ev (fun k=>F.spec_QRGiven.l0 k v n (cent v) (rowsOfB n cf i++List.replicate (n-i) []) n i) (rowsOfB n cf n):=by
  intro d
  induction d with
  | zero=>
   intro i hi
   obtain rfl:i=n:=by omega
   refine Ev.step (f:=fun _=>some (rowsOfB i cf i)) (fun k=>?_) (Ev.now _)
   rw [F.spec_QRGiven.l0,if_neg (by omega),Nat.sub_self,List.replicate_zero,List.append_nil]
  | succ d ih=>
   intro i hi
   have hnext:=ih (i+1) (by omega)
   have HW:=Aside0.mk (show wrap64 ((i:Int)+1)=((i+1:Nat):Int) by rw [w64q _ (by omega) (by omega)];rfl)
   have H1:∀ (e j:Nat),j+e=n->Ev (fun k=>F.spec_QRGiven.l1 k v n (cent v) (rowsOfB n cf i++part n cf i j :: List.replicate (n-(i+1)) []) i n i n j) (rowsOfB n cf n):=by
    intro e
    induction e with
    | zero=>
     intro j hj
     obtain rfl:j=n:=by omega
     have hrow:rowsOfB j cf i++part j cf i j :: List.replicate (j-(i+1)) []=rowsOfB j cf (i+1)++List.replicate (j-(i+1)) []:=by
      unfold rowsOfB part
      rw [Nat.sub_self,List.replicate_zero,List.append_nil,List.range_succ,List.map_append,List.append_assoc]
      rfl
     refine Ev.step (fun k=>?_) hnext
     rw [F.spec_QRGiven.l1,if_neg (by omega),HW.out,hrow]
    | succ e ih1=>
     intro j hj
     have h1:=ih1 (j+1) (by omega)
     have HWJ:=Aside0.mk (show wrap64 ((j:Int)+1)=((j+1:Nat):Int) by rw [w64q _ (by omega) (by omega)];rfl)
     have hlen:(rowsOfB n cf i++part n cf i j :: List.replicate (n-(i+1)) []).length=n:=by simp [rowsOfB_len];omega
     have hrd:=rd_mid (rowsOfB n cf i) (List.replicate (n-(i+1)) []) (part n cf i j) i (rowsOfB_len n cf i)
     have hpl:=part_len n cf i j (by omega)
     have hset:(rowsOfB n cf i++part n cf i j :: List.replicate (n-(i+1)) []).set i ((part n cf i j).set j (cf i j))=rowsOfB n cf i++part n cf i (j+1) :: List.replicate (n-(i+1)) []:=by
      rw [set_mid _ _ _ _ i (rowsOfB_len n cf i),part_set n cf i j (by omega)]
     have hgo:Ev (fun k=>F.spec_QRGiven.l1 k v n (cent v) ((rowsOfB n cf i++part n cf i j :: List.replicate (n-(i+1)) []).set i ((part n cf i j).set j (cf i j))) i n i n ((j+1:Nat):Int)) (rowsOfB n cf n):=by rw [hset];exact h1
     refine Ev.step (fun k=>by rw [F.spec_QRGiven.l1,if_pos (by omega),if_pos (by omega),if_pos (by omega)]) (Ev.bind (hcell i j (by omega) (by omega)) ?_)
     refine Ev.congr (fun k=>?_) hgo
     rw [if_pos (by omega),hrd,if_pos (by omega),HWJ.out,Int.toNat_natCast,Int.toNat_natCast]
   have h1:=H1 n 0 (by omega)
   have hrep:rowsOfB n cf i++List.replicate (n-i) []=rowsOfB n cf i++[] :: List.replicate (n-(i+1)) []:=by rw [show n-i=(n-(i+1))+1 by omega,List.replicate_succ]
   have hlen:(rowsOfB n cf i++[] :: List.replicate (n-(i+1)) []).length=n:=by simp [rowsOfB_len];omega
   have hset:=set_mid (rowsOfB n cf i) (List.replicate (n-(i+1)) []) [] (List.replicate n false) i (rowsOfB_len n cf i)
   have hpz:part n cf i 0=List.replicate n false:=by unfold part;simp
   rw [hpz] at h1
   have hrd:=rd_mid (rowsOfB n cf i) (List.replicate (n-(i+1)) []) (List.replicate n false) i (rowsOfB_len n cf i)
   refine Ev.step (fun k=>?_) h1
   rw [F.spec_QRGiven.l0,if_pos (by omega),if_pos (by omega),if_pos (by omega),if_pos (by omega),hrep,if_pos (by omega),Option.bind_some,Int.toNat_natCast,Int.toNat_natCast,hset,hrd,List.length_replicate]
   rfl
 have hd:=dim_f v (by omega)
 rw [<- hnv] at hd
 refine Ev.congr (fun k=>by rw [F.spec_QRGiven.f,hd,Option.bind_some]) (Ev.bind (cent_run v hv).1 ?_)
 have h0:=H0 n 0 (by omega)
 refine Ev.congr (fun k=>?_) h0
 rw [if_pos (by omega),if_pos (by omega),Option.bind_some,Int.toNat_natCast,List.length_replicate]
 rfl
end Go.Proofs.YtgccjgpdjkhpdaaGreat.B
namespace Go.Proofs.YtgccjgpdjkhpdaaGreat.F
open Go.RowKit Go.Proofs.YtgccjgpdjkhpdaaGreatW.PrintWords Go.Proofs.YtgccjgpdjkhpdaaGreatW.PrintLast Go.Proofs.YtgccjgpdjkhpdaaGreatW.PrintMore
attribute [local go_sem] max2_int min2_int max_two min_two max_three min_three max_four min_four
set_option linter.unusedVariables false
set_option linter.unusedSimpArgs false
def spec_QRRoom.f (k:Nat)(a0:Int):Option (Int):=(spec_QRDimension.f a0).bind fun t347=>((spec_QRCenters.f k a0).bind fun t348=>(if a0≥7 then (if (t348.length:Int)>0 then (some (wrap64 ((wrap64 ((wrap64 ((wrap64 ((wrap64 ((wrap64 (t347*t347))-192))-(wrap64 (2*(wrap64 (t347-16))))))-31))-36))-(wrap64 ((wrap64 (25*(wrap64 ((wrap64 ((t348.length:Int)*(t348.length:Int)))-3))))-(wrap64 (10*(wrap64 ((t348.length:Int)-2))))))))) else (some (wrap64 ((wrap64 ((wrap64 ((wrap64 ((wrap64 (t347*t347))-192))-(wrap64 (2*(wrap64 (t347-16))))))-31))-36)))) else (if (t348.length:Int)>0 then (some (wrap64 ((wrap64 ((wrap64 ((wrap64 ((wrap64 (t347*t347))-192))-(wrap64 (2*(wrap64 (t347-16))))))-31))-(wrap64 ((wrap64 (25*(wrap64 ((wrap64 ((t348.length:Int)*(t348.length:Int)))-3))))-(wrap64 (10*(wrap64 ((t348.length:Int)-2))))))))) else (some (wrap64 ((wrap64 ((wrap64 ((wrap64 (t347*t347))-192))-(wrap64 (2*(wrap64 (t347-16))))))-31))))))
theorem spec_QRRoom.mono:∀ a0 k,LeO (spec_QRRoom.f k a0) (spec_QRRoom.f (k+1) a0):=by
 intro a0 k
 unfold spec_QRRoom.f
 repeat' first
   | (with_reducible exact spec_QRCenters.mono _ _)
   | (with_reducible exact LeO.refl _)
   | (with_reducible exact LeO.none _)
   | (with_reducible refine LeO.ite ?_ ?_)
   | (with_reducible refine LeO.bind ?_ (fun _=>?_))
   | exact spec_QRCenters.mono _ _
   | exact LeO.none _
   | refine LeO.ite ?_ ?_
   | refine LeO.bind ?_ (fun _=>?_)
set_option maxHeartbeats 8000000 in
set_option maxRecDepth 100000 in
theorem spec_QRRoom.calls (k:Nat)(a0:Int)(r:Int)(w:World)(h:spec_QRRoom.f k a0=some r) :
  Calls Tryz.prog 102 #[.int .i64 a0] w fun e w'=>e=.returned (.int .i64 r)/\Below w.heap.size w w':=by
 have HB:=Aside0.mk (Below.refl w.heap.size w)
 have H:((spec_QRDimension.f a0).bind fun t347=>((spec_QRCenters.f k a0).bind fun t348=>(if a0≥7 then (if (t348.length:Int)>0 then (some (wrap64 ((wrap64 ((wrap64 ((wrap64 ((wrap64 ((wrap64 (t347*t347))-192))-(wrap64 (2*(wrap64 (t347-16))))))-31))-36))-(wrap64 ((wrap64 (25*(wrap64 ((wrap64 ((t348.length:Int)*(t348.length:Int)))-3))))-(wrap64 (10*(wrap64 ((t348.length:Int)-2))))))))) else (some (wrap64 ((wrap64 ((wrap64 ((wrap64 ((wrap64 (t347*t347))-192))-(wrap64 (2*(wrap64 (t347-16))))))-31))-36)))) else (if (t348.length:Int)>0 then (some (wrap64 ((wrap64 ((wrap64 ((wrap64 ((wrap64 (t347*t347))-192))-(wrap64 (2*(wrap64 (t347-16))))))-31))-(wrap64 ((wrap64 (25*(wrap64 ((wrap64 ((t348.length:Int)*(t348.length:Int)))-3))))-(wrap64 (10*(wrap64 ((t348.length:Int)-2))))))))) else (some (wrap64 ((wrap64 ((wrap64 ((wrap64 (t347*t347))-192))-(wrap64 (2*(wrap64 (t347-16))))))-31)))))))=some r:=h
 clear h
 replace H:=Option.bind_eq_some_iff.mp H
 obtain⟨t347,A20,H⟩:=H
 replace H:((spec_QRCenters.f k a0).bind fun t348=>(if a0≥7 then (if (t348.length:Int)>0 then (some (wrap64 ((wrap64 ((wrap64 ((wrap64 ((wrap64 ((wrap64 (t347*t347))-192))-(wrap64 (2*(wrap64 (t347-16))))))-31))-36))-(wrap64 ((wrap64 (25*(wrap64 ((wrap64 ((t348.length:Int)*(t348.length:Int)))-3))))-(wrap64 (10*(wrap64 ((t348.length:Int)-2))))))))) else (some (wrap64 ((wrap64 ((wrap64 ((wrap64 ((wrap64 (t347*t347))-192))-(wrap64 (2*(wrap64 (t347-16))))))-31))-36)))) else (if (t348.length:Int)>0 then (some (wrap64 ((wrap64 ((wrap64 ((wrap64 ((wrap64 (t347*t347))-192))-(wrap64 (2*(wrap64 (t347-16))))))-31))-(wrap64 ((wrap64 (25*(wrap64 ((wrap64 ((t348.length:Int)*(t348.length:Int)))-3))))-(wrap64 (10*(wrap64 ((t348.length:Int)-2))))))))) else (some (wrap64 ((wrap64 ((wrap64 ((wrap64 (t347*t347))-192))-(wrap64 (2*(wrap64 (t347-16))))))-31))))))=some r:=H
 have A2:=Aside0.mk A20
 clear A20
 replace H:=Option.bind_eq_some_iff.mp H
 obtain⟨t348,A30,H⟩:=H
 replace H:(if a0≥7 then (if (t348.length:Int)>0 then (some (wrap64 ((wrap64 ((wrap64 ((wrap64 ((wrap64 ((wrap64 (t347*t347))-192))-(wrap64 (2*(wrap64 (t347-16))))))-31))-36))-(wrap64 ((wrap64 (25*(wrap64 ((wrap64 ((t348.length:Int)*(t348.length:Int)))-3))))-(wrap64 (10*(wrap64 ((t348.length:Int)-2))))))))) else (some (wrap64 ((wrap64 ((wrap64 ((wrap64 ((wrap64 (t347*t347))-192))-(wrap64 (2*(wrap64 (t347-16))))))-31))-36)))) else (if (t348.length:Int)>0 then (some (wrap64 ((wrap64 ((wrap64 ((wrap64 ((wrap64 (t347*t347))-192))-(wrap64 (2*(wrap64 (t347-16))))))-31))-(wrap64 ((wrap64 (25*(wrap64 ((wrap64 ((t348.length:Int)*(t348.length:Int)))-3))))-(wrap64 (10*(wrap64 ((t348.length:Int)-2))))))))) else (some (wrap64 ((wrap64 ((wrap64 ((wrap64 (t347*t347))-192))-(wrap64 (2*(wrap64 (t347-16))))))-31)))))=some r:=H
 have A3:=Aside0.mk A30
 clear A30
 by_cases c4:a0≥7
 ·rw [if_pos c4] at H
  have c4b0:decide (7<=a0)=true:=decide_eq_true c4
  clear c4
  by_cases c5:(t348.length:Int)>0
  ·rw [if_pos c5] at H
   have c5b0:decide (0<(t348.length:Int))=true:=decide_eq_true c5
   have c5b1:decide (0<t348.length)=true:=decide_eq_true (by omega)
   clear c5
   obtain rfl:=Option.some.inj H
   go_enter Tryz.func102,Tryz.ntmps102
   go_wp2_with (first | ((with_reducible refine gate_callee (f:=46) rfl ?_);refine goesL_ (some 7) rfl rfl Tryz.func46 (by kernel_rfl) rfl #[.int .i64 a0] rfl (by (try simp only [List.map_toArray,List.map_cons,List.map_nil]);first | done | rfl | (simp only [List.length_drop,List.length_take];rfl)) ?_;(with_reducible refine (spec_QRDimension.calls a0 t347 _ A2.out).mono ?_);rintro e w' ⟨rfl,⟨nd,rfl⟩⟩;refine⟨_,rfl,?_⟩) | ((with_reducible refine gate_callee (f:=48) rfl ?_);refine goesL_ (some 9) rfl rfl Tryz.func48 (by kernel_rfl) rfl #[.int .i64 a0] rfl (by (try simp only [List.map_toArray,List.map_cons,List.map_nil]);first | done | rfl | (simp only [List.length_drop,List.length_take];rfl)) ?_;(with_reducible refine (spec_QRCenters.calls k a0 t348 _ A3.out).mono ?_);rintro e w6 ⟨v349,rfl,ho0,hb⟩;refine⟨_,rfl,?_⟩;have n0_:=Aside0.mk (Kd.R_lower ho0 (below_size (by repeat (first | (with_reducible first | exact HB.out | apply below_alloc | apply pw_below_drewN | apply below_drew1) | exact HB.out))));have n1_:=Aside0.mk (below_step (by repeat (first | (with_reducible first | exact HB.out | apply below_alloc | apply pw_below_drewN | apply below_drew1) | exact HB.out)) hb);clear HB;have HO350:=n0_;have HB:=n1_;clear n0_ n1_;(try clear hb);(try clear hb2);(try clear hk);(try clear hi);(try clear ho0);obtain⟨Ao7,co7,eo7⟩:=Kd.R_slice HO350.out;subst eo7))
   go_ret
   exact⟨by first | rfl | (simp [errW_none,errW_some]<;>rfl) | (simp [*,errW_none,errW_some]<;>rfl),by repeat (first | (with_reducible first | exact HB.out | apply below_alloc | apply pw_below_drewN | apply below_drew1) | exact HB.out)⟩
  ·rw [if_neg c5] at H
   have c5b0:decide (0<(t348.length:Int))=false:=decide_eq_false c5
   have c5b1:decide (0<t348.length)=false:=decide_eq_false (by omega)
   clear c5
   obtain rfl:=Option.some.inj H
   go_enter Tryz.func102,Tryz.ntmps102
   go_wp2_with (first | ((with_reducible refine gate_callee (f:=46) rfl ?_);refine goesL_ (some 7) rfl rfl Tryz.func46 (by kernel_rfl) rfl #[.int .i64 a0] rfl (by (try simp only [List.map_toArray,List.map_cons,List.map_nil]);first | done | rfl | (simp only [List.length_drop,List.length_take];rfl)) ?_;(with_reducible refine (spec_QRDimension.calls a0 t347 _ A2.out).mono ?_);rintro e w' ⟨rfl,⟨nd,rfl⟩⟩;refine⟨_,rfl,?_⟩) | ((with_reducible refine gate_callee (f:=48) rfl ?_);refine goesL_ (some 9) rfl rfl Tryz.func48 (by kernel_rfl) rfl #[.int .i64 a0] rfl (by (try simp only [List.map_toArray,List.map_cons,List.map_nil]);first | done | rfl | (simp only [List.length_drop,List.length_take];rfl)) ?_;(with_reducible refine (spec_QRCenters.calls k a0 t348 _ A3.out).mono ?_);rintro e w8 ⟨v349,rfl,ho0,hb⟩;refine⟨_,rfl,?_⟩;have n0_:=Aside0.mk (Kd.R_lower ho0 (below_size (by repeat (first | (with_reducible first | exact HB.out | apply below_alloc | apply pw_below_drewN | apply below_drew1) | exact HB.out))));have n1_:=Aside0.mk (below_step (by repeat (first | (with_reducible first | exact HB.out | apply below_alloc | apply pw_below_drewN | apply below_drew1) | exact HB.out)) hb);clear HB;have HO350:=n0_;have HB:=n1_;clear n0_ n1_;(try clear hb);(try clear hb2);(try clear hk);(try clear hi);(try clear ho0);obtain⟨Ao9,co9,eo9⟩:=Kd.R_slice HO350.out;subst eo9))
   go_ret
   exact⟨by first | rfl | (simp [errW_none,errW_some]<;>rfl) | (simp [*,errW_none,errW_some]<;>rfl),by repeat (first | (with_reducible first | exact HB.out | apply below_alloc | apply pw_below_drewN | apply below_drew1) | exact HB.out)⟩
 ·rw [if_neg c4] at H
  have c4b0:decide (7<=a0)=false:=decide_eq_false c4
  clear c4
  by_cases c10:(t348.length:Int)>0
  ·rw [if_pos c10] at H
   have c10b0:decide (0<(t348.length:Int))=true:=decide_eq_true c10
   have c10b1:decide (0<t348.length)=true:=decide_eq_true (by omega)
   clear c10
   obtain rfl:=Option.some.inj H
   go_enter Tryz.func102,Tryz.ntmps102
   go_wp2_with (first | ((with_reducible refine gate_callee (f:=46) rfl ?_);refine goesL_ (some 7) rfl rfl Tryz.func46 (by kernel_rfl) rfl #[.int .i64 a0] rfl (by (try simp only [List.map_toArray,List.map_cons,List.map_nil]);first | done | rfl | (simp only [List.length_drop,List.length_take];rfl)) ?_;(with_reducible refine (spec_QRDimension.calls a0 t347 _ A2.out).mono ?_);rintro e w' ⟨rfl,⟨nd,rfl⟩⟩;refine⟨_,rfl,?_⟩) | ((with_reducible refine gate_callee (f:=48) rfl ?_);refine goesL_ (some 9) rfl rfl Tryz.func48 (by kernel_rfl) rfl #[.int .i64 a0] rfl (by (try simp only [List.map_toArray,List.map_cons,List.map_nil]);first | done | rfl | (simp only [List.length_drop,List.length_take];rfl)) ?_;(with_reducible refine (spec_QRCenters.calls k a0 t348 _ A3.out).mono ?_);rintro e w11 ⟨v349,rfl,ho0,hb⟩;refine⟨_,rfl,?_⟩;have n0_:=Aside0.mk (Kd.R_lower ho0 (below_size (by repeat (first | (with_reducible first | exact HB.out | apply below_alloc | apply pw_below_drewN | apply below_drew1) | exact HB.out))));have n1_:=Aside0.mk (below_step (by repeat (first | (with_reducible first | exact HB.out | apply below_alloc | apply pw_below_drewN | apply below_drew1) | exact HB.out)) hb);clear HB;have HO350:=n0_;have HB:=n1_;clear n0_ n1_;(try clear hb);(try clear hb2);(try clear hk);(try clear hi);(try clear ho0);obtain⟨Ao12,co12,eo12⟩:=Kd.R_slice HO350.out;subst eo12))
   go_ret
   exact⟨by first | rfl | (simp [errW_none,errW_some]<;>rfl) | (simp [*,errW_none,errW_some]<;>rfl),by repeat (first | (with_reducible first | exact HB.out | apply below_alloc | apply pw_below_drewN | apply below_drew1) | exact HB.out)⟩
  ·rw [if_neg c10] at H
   have c10b0:decide (0<(t348.length:Int))=false:=decide_eq_false c10
   have c10b1:decide (0<t348.length)=false:=decide_eq_false (by omega)
   clear c10
   obtain rfl:=Option.some.inj H
   go_enter Tryz.func102,Tryz.ntmps102
   go_wp2_with (first | ((with_reducible refine gate_callee (f:=46) rfl ?_);refine goesL_ (some 7) rfl rfl Tryz.func46 (by kernel_rfl) rfl #[.int .i64 a0] rfl (by (try simp only [List.map_toArray,List.map_cons,List.map_nil]);first | done | rfl | (simp only [List.length_drop,List.length_take];rfl)) ?_;(with_reducible refine (spec_QRDimension.calls a0 t347 _ A2.out).mono ?_);rintro e w' ⟨rfl,⟨nd,rfl⟩⟩;refine⟨_,rfl,?_⟩) | ((with_reducible refine gate_callee (f:=48) rfl ?_);refine goesL_ (some 9) rfl rfl Tryz.func48 (by kernel_rfl) rfl #[.int .i64 a0] rfl (by (try simp only [List.map_toArray,List.map_cons,List.map_nil]);first | done | rfl | (simp only [List.length_drop,List.length_take];rfl)) ?_;(with_reducible refine (spec_QRCenters.calls k a0 t348 _ A3.out).mono ?_);rintro e w13 ⟨v349,rfl,ho0,hb⟩;refine⟨_,rfl,?_⟩;have n0_:=Aside0.mk (Kd.R_lower ho0 (below_size (by repeat (first | (with_reducible first | exact HB.out | apply below_alloc | apply pw_below_drewN | apply below_drew1) | exact HB.out))));have n1_:=Aside0.mk (below_step (by repeat (first | (with_reducible first | exact HB.out | apply below_alloc | apply pw_below_drewN | apply below_drew1) | exact HB.out)) hb);clear HB;have HO350:=n0_;have HB:=n1_;clear n0_ n1_;(try clear hb);(try clear hb2);(try clear hk);(try clear hi);(try clear ho0);obtain⟨Ao14,co14,eo14⟩:=Kd.R_slice HO350.out;subst eo14))
   go_ret
   exact⟨by first | rfl | (simp [errW_none,errW_some]<;>rfl) | (simp [*,errW_none,errW_some]<;>rfl),by repeat (first | (with_reducible first | exact HB.out | apply below_alloc | apply pw_below_drewN | apply below_drew1) | exact HB.out)⟩
def spec_QRTotal.f (k:Nat)(a0:Int):Option (Int):=(spec_QRRoom.f k a0).bind fun t351=>(some (wrap64 (Int.tdiv t351 8)))
theorem spec_QRTotal.mono:∀ a0 k,LeO (spec_QRTotal.f k a0) (spec_QRTotal.f (k+1) a0):=by
 intro a0 k
 unfold spec_QRTotal.f
 repeat' first
   | (with_reducible exact spec_QRRoom.mono _ _)
   | (with_reducible exact LeO.refl _)
   | (with_reducible exact LeO.none _)
   | (with_reducible refine LeO.ite ?_ ?_)
   | (with_reducible refine LeO.bind ?_ (fun _=>?_))
   | exact spec_QRRoom.mono _ _
   | exact LeO.none _
   | refine LeO.ite ?_ ?_
   | refine LeO.bind ?_ (fun _=>?_)
set_option maxHeartbeats 8000000 in
set_option maxRecDepth 100000 in
theorem spec_QRTotal.calls (k:Nat)(a0:Int)(r:Int)(w:World)(h:spec_QRTotal.f k a0=some r) :
  Calls Tryz.prog 56 #[.int .i64 a0] w fun e w'=>e=.returned (.int .i64 r)/\Below w.heap.size w w':=by
 have HB:=Aside0.mk (Below.refl w.heap.size w)
 have H:((spec_QRRoom.f k a0).bind fun t351=>(some (wrap64 (Int.tdiv t351 8))))=some r:=h
 clear h
 replace H:=Option.bind_eq_some_iff.mp H
 obtain⟨t351,A20,H⟩:=H
 replace H:(some (wrap64 (Int.tdiv t351 8)))=some r:=H
 have A2:=Aside0.mk A20
 clear A20
 obtain rfl:=Option.some.inj H
 go_enter Tryz.func56,Tryz.ntmps56
 go_wp2_with (first | ((with_reducible refine gate_callee (f:=102) rfl ?_);refine goesL_ (some 4) rfl rfl Tryz.func102 (by kernel_rfl) rfl #[.int .i64 a0] rfl (by (try simp only [List.map_toArray,List.map_cons,List.map_nil]);first | done | rfl | (simp only [List.length_drop,List.length_take];rfl)) ?_;(with_reducible refine (spec_QRRoom.calls k a0 t351 _ A2.out).mono ?_);rintro e w3 ⟨rfl,hb⟩;refine⟨_,rfl,?_⟩;have n0_:=Aside0.mk (below_step (by repeat (first | (with_reducible first | exact HB.out | apply below_alloc | apply pw_below_drewN | apply below_drew1) | exact HB.out)) hb);clear HB;have HB:=n0_;clear n0_;(try clear hb);(try clear hb2);(try clear hk);(try clear hi)))
 go_ret
 exact⟨by first | rfl | (simp [errW_none,errW_some]<;>rfl) | (simp [*,errW_none,errW_some]<;>rfl),by repeat (first | (with_reducible first | exact HB.out | apply below_alloc | apply pw_below_drewN | apply below_drew1) | exact HB.out)⟩
end Go.Proofs.YtgccjgpdjkhpdaaGreat.F
