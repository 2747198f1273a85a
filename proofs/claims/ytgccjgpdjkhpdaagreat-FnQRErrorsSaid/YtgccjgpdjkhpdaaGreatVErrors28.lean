import Derived.Deep.SlicePairs
import Derived.Test.YtgccjgpdjkhpdaaGreatVErrors2
open Int renaming tmod→Mw
open Go.Proofs.YtgccjgpdjkhpdaaGreatW.PrintWords.Aside0 renaming mk→Mx
/-! Own texts of this claim, part 28. -/
namespace Go.Proofs.YtgccjgpdjkhpdaaGreat.B
open Go.RowKit Go.Proofs.YtgccjgpdjkhpdaaGreatW.PrintWords Go.Proofs.YtgccjgpdjkhpdaaGreatW.PrintLast Go.Proofs.YtgccjgpdjkhpdaaGreatW.PrintMore
set_option linter.unusedVariables false
set_option linter.unusedSimpArgs false
theorem rz (w:World)(base:Nat):w.ownsRow base 5 1 (.slice none 0 0) ([]:List Int).length (ac .u8 []):=⟨rfl,.inl ⟨rfl,rfl⟩⟩
end Go.Proofs.YtgccjgpdjkhpdaaGreat.B
namespace Go.Proofs.YtgccjgpdjkhpdaaGreat.F
open Go.RowKit Go.Proofs.YtgccjgpdjkhpdaaGreatW.PrintWords Go.Proofs.YtgccjgpdjkhpdaaGreatW.PrintLast Go.Proofs.YtgccjgpdjkhpdaaGreatW.PrintMore
attribute [local go_sem] fB fC fD fE fF fG fH fI
set_option linter.unusedVariables false
set_option linter.unusedSimpArgs false
def o8.f (a0:Int)(a1:Int)(a2:Int):Option (Bool):=if a0=0 then (some ((Mw (wrap64 (a1+a2)) 2)==0)) else (if a0=1 then (some ((Mw a2 2)==0)) else (if a0=2 then (some ((Mw a1 3)==0)) else (if a0=3 then (some ((Mw (wrap64 (a1+a2)) 3)==0)) else (if a0=4 then (some ((Mw (wrap64 ((wrap64 (Int.tdiv a2 2))+(wrap64 (Int.tdiv a1 3)))) 2)==0)) else (if a0=5 then (some ((wrap64 ((Mw (wrap64 (a1*a2)) 2)+(Mw (wrap64 (a1*a2)) 3)))==0)) else (if a0=6 then (some ((Mw (wrap64 ((Mw (wrap64 (a1*a2)) 2)+(Mw (wrap64 (a1*a2)) 3))) 2)==0)) else (some ((Mw (wrap64 ((Mw (wrap64 (a1+a2)) 2)+(Mw (wrap64 (a1*a2)) 3))) 2)==0))))))))
set_option maxHeartbeats 8000000 in
set_option maxRecDepth 100000 in
theorem o8.calls (a0:Int)(a1:Int)(a2:Int)(r:Bool)(w:World)(h:o8.f a0 a1 a2=some r) :
  Calls Tryz.prog 65 #[.int .i64 a0,.int .i64 a1,.int .i64 a2] w fun e w'=>e=.returned (.bool r)/\aj w w':=by
 have H:(if a0=0 then (some ((Mw (wrap64 (a1+a2)) 2)==0)) else (if a0=1 then (some ((Mw a2 2)==0)) else (if a0=2 then (some ((Mw a1 3)==0)) else (if a0=3 then (some ((Mw (wrap64 (a1+a2)) 3)==0)) else (if a0=4 then (some ((Mw (wrap64 ((wrap64 (Int.tdiv a2 2))+(wrap64 (Int.tdiv a1 3)))) 2)==0)) else (if a0=5 then (some ((wrap64 ((Mw (wrap64 (a1*a2)) 2)+(Mw (wrap64 (a1*a2)) 3)))==0)) else (if a0=6 then (some ((Mw (wrap64 ((Mw (wrap64 (a1*a2)) 2)+(Mw (wrap64 (a1*a2)) 3))) 2)==0)) else (some ((Mw (wrap64 ((Mw (wrap64 (a1+a2)) 2)+(Mw (wrap64 (a1*a2)) 3))) 2)==0)))))))))=some r:=h;clear h;by_cases c4:a0=0
 ·rw [if_pos c4] at H;have c4b0:(a0==0)=true:=beq_iff_eq.mpr c4;have c4b1:(a0 != 0)=false:=bne_eq_false_iff_eq.mpr c4;clear c4;obtain rfl:=Option.some.inj H
  go_enter Tryz.func65,Tryz.ntmps65
  go_wp2
  go_ret
  exact⟨by first | rfl | (simp;done) | (simp [*];done),by repeat (first | exact aj.refl _ | apply aj.step)⟩
 rw [if_neg c4] at H;have c4b0:(a0==0)=false:=beq_eq_false_iff_ne.mpr c4;have c4b1:(a0 != 0)=true:=bne_iff_ne.mpr c4;by_cases c5:a0=1
 ·rw [if_pos c5] at H;have c5b0:(a0==1)=true:=beq_iff_eq.mpr c5;have c5b1:(a0 != 1)=false:=bne_eq_false_iff_eq.mpr c5;clear c5;obtain rfl:=Option.some.inj H
  go_enter Tryz.func65,Tryz.ntmps65
  go_wp2
  go_ret
  exact⟨by first | rfl | (simp;done) | (simp [*];done),by repeat (first | exact aj.refl _ | apply aj.step)⟩
 rw [if_neg c5] at H;have c5b0:(a0==1)=false:=beq_eq_false_iff_ne.mpr c5;have c5b1:(a0 != 1)=true:=bne_iff_ne.mpr c5;by_cases c6:a0=2
 ·rw [if_pos c6] at H;have c6b0:(a0==2)=true:=beq_iff_eq.mpr c6;have c6b1:(a0 != 2)=false:=bne_eq_false_iff_eq.mpr c6;clear c6;obtain rfl:=Option.some.inj H
  go_enter Tryz.func65,Tryz.ntmps65
  go_wp2
  go_ret
  exact⟨by first | rfl | (simp;done) | (simp [*];done),by repeat (first | exact aj.refl _ | apply aj.step)⟩
 rw [if_neg c6] at H;have c6b0:(a0==2)=false:=beq_eq_false_iff_ne.mpr c6;have c6b1:(a0 != 2)=true:=bne_iff_ne.mpr c6;by_cases c7:a0=3
 ·rw [if_pos c7] at H;have c7b0:(a0==3)=true:=beq_iff_eq.mpr c7;have c7b1:(a0 != 3)=false:=bne_eq_false_iff_eq.mpr c7;clear c7;obtain rfl:=Option.some.inj H
  go_enter Tryz.func65,Tryz.ntmps65
  go_wp2
  go_ret
  exact⟨by first | rfl | (simp;done) | (simp [*];done),by repeat (first | exact aj.refl _ | apply aj.step)⟩
 rw [if_neg c7] at H;have c7b0:(a0==3)=false:=beq_eq_false_iff_ne.mpr c7;have c7b1:(a0 != 3)=true:=bne_iff_ne.mpr c7;by_cases c8:a0=4
 ·rw [if_pos c8] at H;have c8b0:(a0==4)=true:=beq_iff_eq.mpr c8;have c8b1:(a0 != 4)=false:=bne_eq_false_iff_eq.mpr c8;clear c8;obtain rfl:=Option.some.inj H
  go_enter Tryz.func65,Tryz.ntmps65
  go_wp2
  go_ret
  exact⟨by first | rfl | (simp;done) | (simp [*];done),by repeat (first | exact aj.refl _ | apply aj.step)⟩
 rw [if_neg c8] at H;have c8b0:(a0==4)=false:=beq_eq_false_iff_ne.mpr c8;have c8b1:(a0 != 4)=true:=bne_iff_ne.mpr c8;by_cases c9:a0=5
 ·rw [if_pos c9] at H;have c9b0:(a0==5)=true:=beq_iff_eq.mpr c9;have c9b1:(a0 != 5)=false:=bne_eq_false_iff_eq.mpr c9;clear c9;obtain rfl:=Option.some.inj H
  go_enter Tryz.func65,Tryz.ntmps65
  go_wp2
  go_ret
  exact⟨by first | rfl | (simp;done) | (simp [*];done),by repeat (first | exact aj.refl _ | apply aj.step)⟩
 rw [if_neg c9] at H;have c9b0:(a0==5)=false:=beq_eq_false_iff_ne.mpr c9;have c9b1:(a0 != 5)=true:=bne_iff_ne.mpr c9;by_cases c10:a0=6;rotate_left
 ·rw [if_neg c10] at H;have c10b0:(a0==6)=false:=beq_eq_false_iff_ne.mpr c10;have c10b1:(a0 != 6)=true:=bne_iff_ne.mpr c10;obtain rfl:=Option.some.inj H
  go_enter Tryz.func65,Tryz.ntmps65
  go_wp2
  go_ret
  exact⟨by first | rfl | (simp;done) | (simp [*];done),by repeat (first | exact aj.refl _ | apply aj.step)⟩
 rw [if_pos c10] at H;have c10b0:(a0==6)=true:=beq_iff_eq.mpr c10;have c10b1:(a0 != 6)=false:=bne_eq_false_iff_eq.mpr c10;clear c10;obtain rfl:=Option.some.inj H
 go_enter Tryz.func65,Tryz.ntmps65
 go_wp2
 go_ret
 exact⟨by first | rfl | (simp;done) | (simp [*];done),by repeat (first | exact aj.refl _ | apply aj.step)⟩
end Go.Proofs.YtgccjgpdjkhpdaaGreat.F
namespace Go.Proofs.YtgccjgpdjkhpdaaGreat.B
open Go.RowKit Go.Proofs.YtgccjgpdjkhpdaaGreatW.PrintWords Go.Proofs.YtgccjgpdjkhpdaaGreatW.PrintLast Go.Proofs.YtgccjgpdjkhpdaaGreatW.PrintMore
set_option linter.unusedVariables false
set_option linter.unusedSimpArgs false
def o9 (s:F.bl):Prop:=(-9223372036854775808<=s.f0/\s.f0<=9223372036854775807)/\∀ x∈s.f1,0<=x/\x<=255
theorem tQ {n:Int}(h:(Lit.int .i64 n).wf=true):-9223372036854775808<=n/\n<=9223372036854775807:=by
 unfold Lit.wf at h;simp [IntKind.min,IntKind.max,IntKind.bits,IntKind.signed] at h;omega
theorem nJ {n:Int}(h:(Lit.int .u8 n).wf=true):0<=n/\n<=255:=by
 unfold Lit.wf at h;simp [IntKind.min,IntKind.max,IntKind.bits,IntKind.signed] at h;omega
theorem GD {H:Type}{enc:TypeId×Value->H}{P:Program}{w:World}{base:Nat}{iW:Bool}{t e t0 t1 q:TypeId}{f0 f1:Field}{a:Option Addr}{len cap:Nat}{x:DataW H×List MemPlace}
  (ht:P.underlying t=some (.slice e)) (he:P.underlying e=some (.struct #[f0,f1])) (ce:P.cellsOf e=2) (o0:f0.offset=0) (o1:f1.offset=1) (y0:f0.type=t0) (y1:f1.type=t1) (u0:P.underlying t0=some (.int .i64)) (u1:P.underlying t1=some (.slice q)) (uq:P.underlying q=some (.int .u8))
  (c0:P.cellsOf t0=1) (c1:P.cellsOf t1=1) (cq:P.cellsOf q=1)
  (h:∃ fuel,DataW.trod enc P w base (fun _=>true) iW fuel t [.slice a len cap]=some x):∃ segs:List F.bl,segs.length=len/\len<=cap/\Kd.C F.dU w a len segs/\∀ s∈segs,o9 s:=by
 obtain⟨fuel,h⟩:=h;subst y0 y1;rcases Go.Deep.open_slice_pairs ht he ce o0 o1 c0 c1 h with⟨hcs,_⟩ | ⟨ad,l,c,m,n,V0,V1,D0,D1,P0,P1,hcs,_,hl,hm,hmm,_,hx⟩
 ·simp at hcs;obtain⟨rfl,rfl,rfl⟩:=hcs;exact⟨[],rfl,Nat.le_refl _,Kd.vn _ w,by simp⟩
 simp at hcs;obtain⟨rfl,rfl,rfl⟩:=hcs;simp only [if_true] at hmm;have hm2:cap<=9223372036854775807:=by unfold maxLen at hm;omega
 have each:∀ i,i<len->∃ s:F.bl,o9 s/\w.cell? (ad.add (i*2))=some (.int .i64 s.f0)/\∃ A1 c1,w.cell? (ad.add (i*2+1))=some (.slice A1 s.f1.length c1)/\s.f1.length<=c1/\(Kd.int .u8).C w A1 s.f1.length s.f1:=by
  intro i hi;obtain⟨h0,h1,h2,h3⟩:=hx i (by omega);obtain⟨z,g1,g2,g3⟩:=DataW.trod_int u0 h2;rcases Go.ChangeShapes.open_ints u1 uq cq h3 with⟨k1,_⟩ | ⟨a',l',c',zs,k1,_,k3,k4,k5,_,k7,k8⟩
  ·simp at k1 g1;refine⟨⟨z,[]⟩,⟨tQ (by simpa using g3),by simp⟩,by rw [h0,g1],none,0,by rw [h1,k1];rfl,Nat.le_refl _,Kd.vn _ w⟩
  simp at k1 g1;simp only [if_true] at k5;have hl2:(zs.take l').length=l':=by rw [List.length_take];omega
  refine⟨⟨z,zs.take l'⟩,⟨tQ (by simpa using g3),fun y hy=>nJ (k8 y (List.mem_of_mem_take hy))⟩,by rw [h0,g1],some a',c',by rw [h1,k1];show _=some (Value.slice (some a') (zs.take l').length c');rw [hl2],by show (zs.take l').length<=c';rw [hl2];exact k3,?_⟩
  show (Kd.int .u8).C w (some a') (zs.take l').length (zs.take l');refine Kd.sE (enc:=Value.int .u8) (d:=(0:Int)) (h1:=fun _=>rfl) ⟨rfl,by rw [hl2];unfold maxLen at k4;omega,fun hp=>⟨a',rfl,fun j hj=>?_⟩⟩
  rw [hl2] at hj;rw [k7 j (by omega),List.getD_eq_getElem?_getD,List.getD_eq_getElem?_getD,List.getElem?_take_of_lt hj]
 haveI:Inhabited F.bl:=⟨F.z98⟩
 obtain⟨f,hf⟩:=Go.Deep.choose_lt each;have hl':((List.range len).map f).length=len:=by simp
 refine⟨(List.range len).map f,hl',hl,⟨hl',by omega,fun _=>⟨ad,rfl,fun j p hj=>?_⟩⟩,?_⟩;rotate_left
 ·intro s hs;obtain⟨j,hj,rfl⟩:=List.mem_map.1 hs;exact (hf j (List.mem_range.1 hj)).1
 have hjl:j<len:=by
  have:=(List.getElem?_eq_some_iff.1 hj).1
  rwa [hl'] at this
 rw [List.getElem?_map,List.getElem?_range hjl] at hj;obtain rfl:=Option.some.inj hj;obtain⟨_,g0,A1,cc,g1,g2,g3⟩:=hf j hjl;refine⟨_,rfl,F.Er w (f j) g2 g3,fun i u hu=>?_⟩
 match i,hu with
 | 0,hu=>
  obtain rfl:Value.int .i64 (f j).f0=u:=by simpa using hu
  exact g0
 | 1,hu=>
  obtain rfl:Value.slice A1 (f j).f1.length cc=u:=by simpa using hu
  exact g1
 | i+2,hu=>simp at hu
end Go.Proofs.YtgccjgpdjkhpdaaGreat.B
namespace Go.Proofs.YtgccjgpdjkhpdaaGreat.F
open Go.RowKit Go.Proofs.YtgccjgpdjkhpdaaGreatW.PrintWords Go.Proofs.YtgccjgpdjkhpdaaGreatW.PrintLast Go.Proofs.YtgccjgpdjkhpdaaGreatW.PrintMore
attribute [local go_sem] fB fC fD fE fF fG fH fI
set_option linter.unusedVariables false
set_option linter.unusedSimpArgs false
def dG.l0:Nat->List Int->List Int->Int->Int->Option (Bool)
 | 0,_,_,_,_=>none
 | k+1,x0,x1,x12,x13=>if x13<x12 then (if 0<=x13 then (if x13<(x0.length:Int) then (if x13<(x1.length:Int) then (if (rd x0 x13)=(rd x1 x13) then (dG.l0 k x0 x1 x12 (wrap64 (x13+1))) else (some false)) else (none)) else (none)) else (none)) else (some true)
def dG.f (k:Nat)(l0:List Int)(l1:List Int):Option (Bool):=if (l0.length:Int)=(l1.length:Int) then (dG.l0 k l0 l1 (l0.length:Int) 0) else (some false)
theorem dG.mono_l:∀ k,(∀ y0 y1 y2 y3,ae (dG.l0 k y0 y1 y2 y3) (dG.l0 (k+1) y0 y1 y2 y3))
 | 0=>fun _ _ _ _ r h=>by simp [dG.l0] at h
 | k+1=>by
  have ih0:=dG.mono_l k
  ·intro y0 y1 y2 y3;unfold dG.l0
   repeat' first
   | (with_reducible exact ih0 _ _ _ _)
   | (with_reducible exact ae.refl _)
   | (with_reducible refine ae.ite ?_ ?_)
theorem dG.mono:∀ a0 a1 k,ae (dG.f k a0 a1) (dG.f (k+1) a0 a1):=by
 intro a0 a1 k;have ih0:=dG.mono_l k;unfold dG.f
 repeat' first
   | (with_reducible exact ih0 _ _ _ _)
   | (with_reducible exact ae.refl _)
   | (with_reducible refine ae.ite ?_ ?_)
set_option maxHeartbeats 8000000 in
set_option maxRecDepth 100000 in
theorem dG.calls (k:Nat)(A0:Option Addr)(c0:Nat)(l0:List Int)(A1:Option Addr)(c1:Nat)(l1:List Int)(r:Bool)(w:World)(hr0:Kd.C (Kd.int .u8) w A0 l0.length l0)(hc0:l0.length<=c0)(hr1:Kd.C (Kd.int .u8) w A1 l1.length l1)(hc1:l1.length<=c1)(h:dG.f k l0 l1=some r) :
  Calls Tryz.prog 54 #[.slice A0 l0.length c0,.slice A1 l1.length c1] w fun e w'=>e=.returned (.bool r)/\aj w w':=by
 have HR0:=Mx hr0;have HC0:=Mx hc0;clear hr0 hc0;have HR1:=Mx hr1;have HC1:=Mx hc1;clear hr1 hc1;have H:(if (l0.length:Int)=(l1.length:Int) then (dG.l0 k l0 l1 (l0.length:Int) 0) else (some false))=some r:=h;clear h;by_cases c3:(l0.length:Int)=(l1.length:Int);rotate_left
 ·rw [if_neg c3] at H;have c3b0:((l0.length:Int)==(l1.length:Int))=false:=beq_eq_false_iff_ne.mpr c3;have c3b1:((l0.length:Int) != (l1.length:Int))=true:=bne_iff_ne.mpr c3;have c3b2:(l0.length==l1.length)=false:=by first | (simp at c3 ⊢;omega)
  obtain rfl:=Option.some.inj H
  go_enter Tryz.func54,Tryz.ntmps54
  go_wp2
  repeat (go_quiet (fail))
  go_ret
  exact⟨by first | rfl ,by repeat (first | exact aj.refl _ )⟩
 rw [if_pos c3] at H;have c3b0:((l0.length:Int)==(l1.length:Int))=true:=beq_iff_eq.mpr c3;have c3b1:((l0.length:Int) != (l1.length:Int))=false:=bne_eq_false_iff_eq.mpr c3;have c3b2:(l0.length==l1.length)=true:=by first | (simp at c3 ⊢;omega)
 clear c3;have H':=Mx H;clear H
 go_enter Tryz.func54,Tryz.ntmps54
 go_wp2
 repeat (go_quiet (fail))
 go_loopg [13] k (fun kq v13 w'=>∃ (x13_1:Int),v13=.int .i64 x13_1/\Aside0 (dG.l0 kq l0 l1 (l0.length:Int) x13_1=some r)/\Aside0 (kq<=k)/\aj w w')
 case atStart=>exact⟨(0),rfl,H',⟨Nat.le_refl _⟩,by repeat (first | exact aj.refl _ )⟩
 case round=>
  clear H' c3b0 c3b1 c3b2;obtain⟨x13_1,rfl,HA,HK1,⟨m1,rfl⟩⟩:=hrel;cases gk with
  | zero=>exact absurd HA.out (by simp [dG.l0])
  | succ k1=>
   have H:=HA.out;clear HA;simp only [dG.l0] at H;by_cases c4:x13_1<(l0.length:Int);rotate_left
   ·rw [if_neg c4] at H;have c4b0:=decide_eq_false c4;clear c4;obtain rfl:=Option.some.inj H
    go_wp2
    repeat (go_quiet (fail))
    go_ret
    exact⟨by first | rfl ,by repeat (first | exact aj.refl _ | apply aj.step)⟩
   rw [if_pos c4] at H;have c4b0:=decide_eq_true c4;clear c4;obtain⟨c5,H⟩:=bE H;have c5b0:=decide_eq_true c5;clear c5;obtain⟨c6,H⟩:=bE H;have c6b0:=decide_eq_true c6;clear c6;obtain⟨c7,H⟩:=bE H;have c7b0:=decide_eq_true c7;clear c7;by_cases c8:(rd l0 x13_1)=(rd l1 x13_1);rotate_left
   ·rw [if_neg c8] at H;have c8b0:((rd l0 x13_1)==(rd l1 x13_1))=false:=beq_eq_false_iff_ne.mpr c8;have c8b1:((rd l0 x13_1) != (rd l1 x13_1))=true:=bne_iff_ne.mpr c8;obtain rfl:=Option.some.inj H;have p418:0<=(x13_1:Int):=of_decide_eq_true (by first | (with_reducible assumption) );have q418:x13_1<(l0.length:Int):=of_decide_eq_true (by first | (with_reducible assumption) );obtain⟨ad418,e418,hx418_0⟩:=Kd.m4 HR0.out x13_1 p418 q418;cases e418;replace p418:=eq_true p418;replace q418:=eq_true q418;have p419:0<=(x13_1:Int):=of_decide_eq_true (by first | (with_reducible assumption) );have q419:x13_1<(l1.length:Int):=of_decide_eq_true (by first | (with_reducible assumption) );obtain⟨ad419,e419,hx419_0⟩:=Kd.m4 HR1.out x13_1 p419 q419;cases e419;replace p419:=eq_true p419;replace q419:=eq_true q419
    go_wp2
    repeat (go_quiet (fail);try go_wp2)
    go_ret
    exact⟨by first | rfl ,by repeat (first | exact aj.refl _ | apply aj.step)⟩
   rw [if_pos c8] at H;have c8b0:((rd l0 x13_1)==(rd l1 x13_1))=true:=beq_iff_eq.mpr c8;have c8b1:((rd l0 x13_1) != (rd l1 x13_1))=false:=bne_eq_false_iff_eq.mpr c8;clear c8;have H':=Mx H;clear H;have p418:0<=(x13_1:Int):=of_decide_eq_true (by first | (with_reducible assumption) );have q418:x13_1<(l0.length:Int):=of_decide_eq_true (by first | (with_reducible assumption) );obtain⟨ad418,e418,hx418_0⟩:=Kd.m4 HR0.out x13_1 p418 q418;cases e418;replace p418:=eq_true p418;replace q418:=eq_true q418;have p419:0<=(x13_1:Int):=of_decide_eq_true (by first | (with_reducible assumption) );have q419:x13_1<(l1.length:Int):=of_decide_eq_true (by first | (with_reducible assumption) );obtain⟨ad419,e419,hx419_0⟩:=Kd.m4 HR1.out x13_1 p419 q419;cases e419;replace p419:=eq_true p419;replace q419:=eq_true q419
   go_wp2
   repeat (go_quiet (fail);try go_wp2)
   go_roundg k1
   case measure=>have:=HK1.out;omega
   case rel=>exact⟨(wrap64 (x13_1+1)),rfl,H',⟨by have:=HK1.out;omega⟩,by repeat (first | exact aj.refl _ | apply aj.step)⟩
def iq.l0:Nat->List (List Bool)->Int->Int->Option (Bool)
 | 0,_,_,_=>none
 | k+1,x8,x9,x10=>if x10<x9 then (if 0<=x10 then (if x10<(x8.length:Int) then (if ((aV x8 x10).length:Int)>2147483647 then (some false) else (iq.l0 k x8 x9 (wrap64 (x10+1)))) else (none)) else (none)) else (some true)
def iq.f (k:Nat)(l0:List (List Bool)):Option (Bool):=if (l0.length:Int)>2147483647 then (some false) else (iq.l0 k l0 (l0.length:Int) 0)
theorem iq.mono_l:∀ k,(∀ y0 y1 y2,ae (iq.l0 k y0 y1 y2) (iq.l0 (k+1) y0 y1 y2))
 | 0=>fun _ _ _ r h=>by simp [iq.l0] at h
 | k+1=>by
  have ih0:=iq.mono_l k
  ·intro y0 y1 y2;unfold iq.l0
   repeat' first
   | (with_reducible exact ih0 _ _ _)
   | (with_reducible exact ae.refl _)
   | (with_reducible refine ae.ite ?_ ?_)
theorem iq.mono:∀ a0 k,ae (iq.f k a0) (iq.f (k+1) a0):=by
 intro a0 k;have ih0:=iq.mono_l k;unfold iq.f
 repeat' first
   | (with_reducible exact ih0 _ _ _)
   | (with_reducible exact ae.refl _)
   | (with_reducible refine ae.ite ?_ ?_)
end Go.Proofs.YtgccjgpdjkhpdaaGreat.F
