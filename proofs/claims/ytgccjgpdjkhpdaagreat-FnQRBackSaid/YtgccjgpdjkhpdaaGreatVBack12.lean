import Derived.Test.YtgccjgpdjkhpdaaGreatVBack3
/-! Own texts of this claim, part 12. -/
namespace Go.Proofs.YtgccjgpdjkhpdaaGreat.F
open Go.RowKit Go.Proofs.YtgccjgpdjkhpdaaGreatW.PrintWords Go.Proofs.YtgccjgpdjkhpdaaGreatW.PrintLast Go.Proofs.YtgccjgpdjkhpdaaGreatW.PrintMore
attribute [local go_sem] max2_int min2_int max_two min_two max_three min_three max_four min_four
set_option linter.unusedVariables false
set_option linter.unusedSimpArgs false
def spec_QRDimension.f (a0:Int):Option (Int):=some (wrap64 (17+(wrap64 (4*a0))))
set_option maxHeartbeats 8000000 in
set_option maxRecDepth 100000 in
theorem spec_QRDimension.calls (a0:Int)(r:Int)(w:World)(h:spec_QRDimension.f a0=some r) :
  Calls Tryz.prog 46 #[.int .i64 a0] w fun e w'=>e=.returned (.int .i64 r)/\Drawn0 w w':=by
 have H:(some (wrap64 (17+(wrap64 (4*a0)))))=some r:=h
 clear h
 obtain rfl:=Option.some.inj H
 go_enter Tryz.func46,Tryz.ntmps46
 go_wp2
 go_ret
 exact⟨by first | rfl | (simp;done) | (simp [*];done),by repeat (first | exact Drawn0.refl _ | apply Drawn0.step)⟩
def spec_qrFar.f (a0:Int)(a1:Int)(a2:Int)(a3:Int):Option (Int):=some (mx (mx (wrap64 (a0-a2)) (wrap64 (a2-a0))) (mx (wrap64 (a1-a3)) (wrap64 (a3-a1))))
set_option maxHeartbeats 8000000 in
set_option maxRecDepth 100000 in
theorem spec_qrFar.calls (a0:Int)(a1:Int)(a2:Int)(a3:Int)(r:Int)(w:World)(h:spec_qrFar.f a0 a1 a2 a3=some r) :
  Calls Tryz.prog 98 #[.int .i64 a0,.int .i64 a1,.int .i64 a2,.int .i64 a3] w fun e w'=>e=.returned (.int .i64 r)/\Below w.heap.size w w':=by
 have HB:=Aside0.mk (Below.refl w.heap.size w)
 have H:(some (mx (mx (wrap64 (a0-a2)) (wrap64 (a2-a0))) (mx (wrap64 (a1-a3)) (wrap64 (a3-a1)))))=some r:=h
 clear h
 obtain⟨ji5,hji5⟩:∃ j_:Int,(mx (wrap64 (a0-a2)) (wrap64 (a2-a0)))=j_:=⟨_,rfl⟩
 replace H:(some (mx (ji5) (mx (wrap64 (a1-a3)) (wrap64 (a3-a1)))))=some r:=by first | (rw [hji5] at H;exact H) | (simp only [hji5] at H ⊢;exact H)
 have hji5_:(if (wrap64 (a0-a2))<(wrap64 (a2-a0)) then (wrap64 (a2-a0)) else (wrap64 (a0-a2)))=ji5:=hji5
 obtain⟨ji6,hji6⟩:∃ j_:Int,(mx (wrap64 (a1-a3)) (wrap64 (a3-a1)))=j_:=⟨_,rfl⟩
 replace H:(some (mx (ji5) (ji6)))=some r:=by first | (rw [hji6] at H;exact H) | (simp only [hji6] at H ⊢;exact H)
 have hji6_:(if (wrap64 (a1-a3))<(wrap64 (a3-a1)) then (wrap64 (a3-a1)) else (wrap64 (a1-a3)))=ji6:=hji6
 obtain⟨ji7,hji7⟩:∃ j_:Int,(mx (ji5) (ji6))=j_:=⟨_,rfl⟩
 replace H:(some ji7)=some r:=by first | (rw [hji7] at H;exact H) | (simp only [hji7] at H ⊢;exact H)
 have hji7_:(if (ji5)<(ji6) then (ji6) else (ji5))=ji7:=hji7
 obtain rfl:=Option.some.inj H
 go_enter Tryz.func98,Tryz.ntmps98
 go_wp2
 go_ret
 exact⟨by first | rfl | (simp [errW_none,errW_some]<;>rfl) | (simp only [<- hji5,<- hji6,<- hji7];first | rfl | (simp [errW_none,errW_some]<;>rfl)) | (simp [*,errW_none,errW_some]<;>rfl),by repeat (first | (with_reducible first | exact HB.out | apply below_alloc | apply pw_below_drewN | apply below_drew1) | exact HB.out)⟩
end Go.Proofs.YtgccjgpdjkhpdaaGreat.F
namespace Go.Proofs.YtgccjgpdjkhpdaaGreat.F
open Go.RowKit Go.Proofs.YtgccjgpdjkhpdaaGreatW.PrintWords Go.Proofs.YtgccjgpdjkhpdaaGreatW.PrintLast Go.Proofs.YtgccjgpdjkhpdaaGreatW.PrintMore
attribute [local go_sem] max2_int min2_int max_two min_two max_three min_three max_four min_four
set_option linter.unusedVariables false
set_option linter.unusedSimpArgs false
mutual
def spec_qrAlign.l0:Nat->List Int->Int->Int->Int->List Int->Int->Int->Option (Int)
 | 0,_,_,_,_,_,_,_=>none
 | k+1,x0,x1,x2,x7,x16,x17,x18=>if x18<x17 then (if 0<=x18 then (if x18<(x16.length:Int) then (if x1<(wrap64 ((rd x16 x18)-2)) then (spec_qrAlign.j1 k x0 x1 x2 x7 x18 (rd x16 x18) x16 x17 x18 true) else (spec_qrAlign.j1 k x0 x1 x2 x7 x18 (rd x16 x18) x16 x17 x18 (decide (x1>(wrap64 ((rd x16 x18)+2)))))) else (none)) else (none)) else (some (-1))
def spec_qrAlign.j1:Nat->List Int->Int->Int->Int->Int->Int->List Int->Int->Int->Bool->Option (Int)
 | 0,_,_,_,_,_,_,_,_,_,_=>none
 | k+1,x0,x1,x2,x7,x8,x9,x16,x17,x18,x32=>if x32=true then (spec_qrAlign.l0 k x0 x1 x2 x7 x16 x17 (wrap64 (x18+1))) else (spec_qrAlign.l1 k x0 x1 x2 x7 x8 x9 x16 x17 x18 x0 (x0.length:Int) 0)
def spec_qrAlign.l1:Nat->List Int->Int->Int->Int->Int->Int->List Int->Int->Int->List Int->Int->Int->Option (Int)
 | 0,_,_,_,_,_,_,_,_,_,_,_,_=>none
 | k+1,x0,x1,x2,x7,x8,x9,x16,x17,x18,x33,x34,x35=>if x35<x34 then (if 0<=x35 then (if x35<(x33.length:Int) then (if x8=0 then (if x35=0 then (spec_qrAlign.j3 k x0 x1 x2 x7 x8 x9 (rd x33 x35) x16 x17 x18 x33 x34 x35 true) else (if x35=x7 then (spec_qrAlign.j3 k x0 x1 x2 x7 x8 x9 (rd x33 x35) x16 x17 x18 x33 x34 x35 true) else (if x8=x7 then (spec_qrAlign.j3 k x0 x1 x2 x7 x8 x9 (rd x33 x35) x16 x17 x18 x33 x34 x35 (x35==0)) else (spec_qrAlign.j3 k x0 x1 x2 x7 x8 x9 (rd x33 x35) x16 x17 x18 x33 x34 x35 false)))) else (if x8=x7 then (spec_qrAlign.j3 k x0 x1 x2 x7 x8 x9 (rd x33 x35) x16 x17 x18 x33 x34 x35 (x35==0)) else (spec_qrAlign.j3 k x0 x1 x2 x7 x8 x9 (rd x33 x35) x16 x17 x18 x33 x34 x35 false))) else (none)) else (none)) else (spec_qrAlign.l0 k x0 x1 x2 x7 x16 x17 (wrap64 (x18+1)))
def spec_qrAlign.j3:Nat->List Int->Int->Int->Int->Int->Int->Int->List Int->Int->Int->List Int->Int->Int->Bool->Option (Int)
 | 0,_,_,_,_,_,_,_,_,_,_,_,_,_,_=>none
 | k+1,x0,x1,x2,x7,x8,x9,x11,x16,x17,x18,x33,x34,x35,x59=>if x59=true then (spec_qrAlign.l1 k x0 x1 x2 x7 x8 x9 x16 x17 x18 x33 x34 (wrap64 (x35+1))) else ((spec_qrFar.f x1 x2 x9 x11).bind fun t303=>(if t303<=2 then (some t303) else (spec_qrAlign.l1 k x0 x1 x2 x7 x8 x9 x16 x17 x18 x33 x34 (wrap64 (x35+1)))))
end
def spec_qrAlign.f (k:Nat)(l0:List Int)(a1:Int)(a2:Int):Option (Int):=spec_qrAlign.l0 k l0 a1 a2 (wrap64 ((l0.length:Int)-1)) l0 (l0.length:Int) 0
theorem spec_qrAlign.mono_l:∀ k,(∀ y0 y1 y2 y3 y4 y5 y6,LeO (spec_qrAlign.l0 k y0 y1 y2 y3 y4 y5 y6) (spec_qrAlign.l0 (k+1) y0 y1 y2 y3 y4 y5 y6))/\(∀ y0 y1 y2 y3 y4 y5 y6 y7 y8 y9,LeO (spec_qrAlign.j1 k y0 y1 y2 y3 y4 y5 y6 y7 y8 y9) (spec_qrAlign.j1 (k+1) y0 y1 y2 y3 y4 y5 y6 y7 y8 y9))/\(∀ y0 y1 y2 y3 y4 y5 y6 y7 y8 y9 y10 y11,LeO (spec_qrAlign.l1 k y0 y1 y2 y3 y4 y5 y6 y7 y8 y9 y10 y11) (spec_qrAlign.l1 (k+1) y0 y1 y2 y3 y4 y5 y6 y7 y8 y9 y10 y11))/\(∀ y0 y1 y2 y3 y4 y5 y6 y7 y8 y9 y10 y11 y12 y13,LeO (spec_qrAlign.j3 k y0 y1 y2 y3 y4 y5 y6 y7 y8 y9 y10 y11 y12 y13) (spec_qrAlign.j3 (k+1) y0 y1 y2 y3 y4 y5 y6 y7 y8 y9 y10 y11 y12 y13))
 | 0=>⟨fun _ _ _ _ _ _ _ r h=>by simp [spec_qrAlign.l0] at h,fun _ _ _ _ _ _ _ _ _ _ r h=>by simp [spec_qrAlign.j1] at h,fun _ _ _ _ _ _ _ _ _ _ _ _ r h=>by simp [spec_qrAlign.l1] at h,fun _ _ _ _ _ _ _ _ _ _ _ _ _ _ r h=>by simp [spec_qrAlign.j3] at h⟩
 | k+1=>by
  obtain⟨ih0,ih1,ih2,ih3⟩:=spec_qrAlign.mono_l k
  refine⟨?_,?_,?_,?_⟩
  ·intro y0 y1 y2 y3 y4 y5 y6
   unfold spec_qrAlign.l0
   repeat' first
   | (with_reducible exact ih0 _ _ _ _ _ _ _)
   | (with_reducible exact ih1 _ _ _ _ _ _ _ _ _ _)
   | (with_reducible exact ih2 _ _ _ _ _ _ _ _ _ _ _ _)
   | (with_reducible exact ih3 _ _ _ _ _ _ _ _ _ _ _ _ _ _)
   | (with_reducible exact LeO.refl _)
   | (with_reducible exact LeO.none _)
   | (with_reducible refine LeO.ite ?_ ?_)
   | (with_reducible refine LeO.bind ?_ (fun _=>?_))
   | exact ih0 _ _ _ _ _ _ _
   | exact ih1 _ _ _ _ _ _ _ _ _ _
   | exact ih2 _ _ _ _ _ _ _ _ _ _ _ _
   | exact ih3 _ _ _ _ _ _ _ _ _ _ _ _ _ _
   | exact LeO.none _
   | refine LeO.ite ?_ ?_
   | refine LeO.bind ?_ (fun _=>?_)
  ·intro y0 y1 y2 y3 y4 y5 y6 y7 y8 y9
   unfold spec_qrAlign.j1
   repeat' first
   | (with_reducible exact ih0 _ _ _ _ _ _ _)
   | (with_reducible exact ih1 _ _ _ _ _ _ _ _ _ _)
   | (with_reducible exact ih2 _ _ _ _ _ _ _ _ _ _ _ _)
   | (with_reducible exact ih3 _ _ _ _ _ _ _ _ _ _ _ _ _ _)
   | (with_reducible exact LeO.refl _)
   | (with_reducible exact LeO.none _)
   | (with_reducible refine LeO.ite ?_ ?_)
   | (with_reducible refine LeO.bind ?_ (fun _=>?_))
   | exact ih0 _ _ _ _ _ _ _
   | exact ih1 _ _ _ _ _ _ _ _ _ _
   | exact ih2 _ _ _ _ _ _ _ _ _ _ _ _
   | exact ih3 _ _ _ _ _ _ _ _ _ _ _ _ _ _
   | exact LeO.none _
   | refine LeO.ite ?_ ?_
   | refine LeO.bind ?_ (fun _=>?_)
  ·intro y0 y1 y2 y3 y4 y5 y6 y7 y8 y9 y10 y11
   unfold spec_qrAlign.l1
   repeat' first
   | (with_reducible exact ih0 _ _ _ _ _ _ _)
   | (with_reducible exact ih1 _ _ _ _ _ _ _ _ _ _)
   | (with_reducible exact ih2 _ _ _ _ _ _ _ _ _ _ _ _)
   | (with_reducible exact ih3 _ _ _ _ _ _ _ _ _ _ _ _ _ _)
   | (with_reducible exact LeO.refl _)
   | (with_reducible exact LeO.none _)
   | (with_reducible refine LeO.ite ?_ ?_)
   | (with_reducible refine LeO.bind ?_ (fun _=>?_))
   | exact ih0 _ _ _ _ _ _ _
   | exact ih1 _ _ _ _ _ _ _ _ _ _
   | exact ih2 _ _ _ _ _ _ _ _ _ _ _ _
   | exact ih3 _ _ _ _ _ _ _ _ _ _ _ _ _ _
   | exact LeO.none _
   | refine LeO.ite ?_ ?_
   | refine LeO.bind ?_ (fun _=>?_)
  ·intro y0 y1 y2 y3 y4 y5 y6 y7 y8 y9 y10 y11 y12 y13
   unfold spec_qrAlign.j3
   repeat' first
   | (with_reducible exact ih0 _ _ _ _ _ _ _)
   | (with_reducible exact ih1 _ _ _ _ _ _ _ _ _ _)
   | (with_reducible exact ih2 _ _ _ _ _ _ _ _ _ _ _ _)
   | (with_reducible exact ih3 _ _ _ _ _ _ _ _ _ _ _ _ _ _)
   | (with_reducible exact LeO.refl _)
   | (with_reducible exact LeO.none _)
   | (with_reducible refine LeO.ite ?_ ?_)
   | (with_reducible refine LeO.bind ?_ (fun _=>?_))
   | exact ih0 _ _ _ _ _ _ _
   | exact ih1 _ _ _ _ _ _ _ _ _ _
   | exact ih2 _ _ _ _ _ _ _ _ _ _ _ _
   | exact ih3 _ _ _ _ _ _ _ _ _ _ _ _ _ _
   | exact LeO.none _
   | refine LeO.ite ?_ ?_
   | refine LeO.bind ?_ (fun _=>?_)
theorem spec_qrAlign.mono:∀ a0 a1 a2 k,LeO (spec_qrAlign.f k a0 a1 a2) (spec_qrAlign.f (k+1) a0 a1 a2):=by
 intro a0 a1 a2 k
 obtain⟨ih0,ih1,ih2,ih3⟩:=spec_qrAlign.mono_l k
 unfold spec_qrAlign.f
 repeat' first
   | (with_reducible exact ih0 _ _ _ _ _ _ _)
   | (with_reducible exact ih1 _ _ _ _ _ _ _ _ _ _)
   | (with_reducible exact ih2 _ _ _ _ _ _ _ _ _ _ _ _)
   | (with_reducible exact ih3 _ _ _ _ _ _ _ _ _ _ _ _ _ _)
   | (with_reducible exact LeO.refl _)
   | (with_reducible exact LeO.none _)
   | (with_reducible refine LeO.ite ?_ ?_)
   | (with_reducible refine LeO.bind ?_ (fun _=>?_))
   | exact ih0 _ _ _ _ _ _ _
   | exact ih1 _ _ _ _ _ _ _ _ _ _
   | exact ih2 _ _ _ _ _ _ _ _ _ _ _ _
   | exact ih3 _ _ _ _ _ _ _ _ _ _ _ _ _ _
   | exact LeO.none _
   | refine LeO.ite ?_ ?_
   | refine LeO.bind ?_ (fun _=>?_)
set_option maxHeartbeats 8000000 in
set_option maxRecDepth 100000 in
theorem spec_qrAlign.calls (k:Nat)(A0:Option Addr)(c0:Nat)(l0:List Int)(a1:Int)(a2:Int)(r:Int)(w:World)(hr0:Kd.C (Kd.int .i64) w A0 l0.length l0)(hc0:l0.length<=c0)(h:spec_qrAlign.f k l0 a1 a2=some r) :
  Calls Tryz.prog 96 #[.slice A0 l0.length c0,.int .i64 a1,.int .i64 a2] w fun e w'=>e=.returned (.int .i64 r)/\Below w.heap.size w w':=by
 have HR0:=Aside0.mk hr0
 have HC0:=Aside0.mk hc0
 clear hr0 hc0
 have HB:=Aside0.mk (Below.refl w.heap.size w)
 have H:(spec_qrAlign.l0 k l0 a1 a2 (wrap64 ((l0.length:Int)-1)) l0 (l0.length:Int) 0)=some r:=h
 clear h
 have H':=Aside0.mk H
 clear H
 go_enter Tryz.func96,Tryz.ntmps96
 go_wp2
 go_loopg [18] k (fun kq v18 w'=>∃ (x18_1:Int),v18=.int .i64 x18_1/\Aside0 (spec_qrAlign.l0 kq l0 a1 a2 (wrap64 ((l0.length:Int)-1)) l0 (l0.length:Int) x18_1=some r)/\Aside0 (kq<=k)/\Aside0 (Below w.heap.size w w'))
 case atStart=>exact⟨(0),(by first | rfl | (simp;done) | (simp [*];done)),H',⟨Nat.le_refl _⟩,⟨by repeat (first | (with_reducible first | exact HB.out | apply below_alloc | apply pw_below_drewN | apply below_drew1) | exact HB.out)⟩⟩
 case round=>
  clear H'
  try clear p2
  obtain⟨x18_1,rfl,HA,HK1,HB⟩:=hrel
  cases gk with
  | zero=>exact absurd HA.out (by simp [spec_qrAlign.l0])
  | succ k1=>
   have H:=HA.out
   clear HA
   simp only [spec_qrAlign.l0] at H
   by_cases c4:x18_1<(l0.length:Int)
   ·rw [if_pos c4] at H
    have c4b0:decide (x18_1<(l0.length:Int))=true:=decide_eq_true c4
    clear c4
    by_cases c5:0<=x18_1
    ·rw [if_pos c5] at H
     have c5b0:decide (0<=x18_1)=true:=decide_eq_true c5
     clear c5
     by_cases c6:x18_1<(l0.length:Int)
     ·rw [if_pos c6] at H
      have c6b0:decide (x18_1<(l0.length:Int))=true:=decide_eq_true c6
      clear c6
      have HC7:=Aside0.mk H
      clear H
      have p301:0<=(x18_1:Int):=of_decide_eq_true (by first | (with_reducible assumption) | assumption)
      have q301:x18_1<(l0.length:Int):=of_decide_eq_true (by first | (with_reducible assumption) | assumption)
      obtain⟨ad301,e301,hx301_0⟩:=Kd.at_int HR0.out x18_1 p301 q301
      cases e301
      replace hx301_0:=(HB.out.cell (World.block_lt_of_cell? w _ hx301_0)).trans hx301_0
      replace p301:=eq_true p301
      replace q301:=eq_true q301
      go_upto_region 5 with (fail)
      go_cut [32] (fun v32 wc=>∃ (kq:Nat) (x32_6:Bool),v32=.bool x32_6/\Aside0 (spec_qrAlign.j1 kq l0 a1 a2 (wrap64 ((l0.length:Int)-1)) x18_1 (rd l0 x18_1) l0 (l0.length:Int) x18_1 x32_6=some r)/\Aside0 (kq<=k1)/\Aside0 (Below w.heap.size w wc))
      case first=>
       have H:=HC7.out
       clear HC7
       by_cases c8:a1<(wrap64 ((rd l0 x18_1)-2))
       ·rw [if_pos c8] at H
        have c8b0:decide (a1<(wrap64 ((rd l0 x18_1)-2)))=true:=decide_eq_true c8
        clear c8
        (first | rw [c8b0] | (simp only [i64_w,i32_w];rw [c8b0]) | skip)
        have H':=Aside0.mk H
        clear H
        go_wp2
        go_meet
        case rel=>exact⟨_,(true),(by first | rfl | (simp;done) | (simp [*];done)),H',⟨by have:=HK1.out;first | omega | exact Nat.le_refl _⟩,⟨by repeat (first | (with_reducible first | exact HB.out | apply below_alloc | apply pw_below_drewN | apply below_drew1) | exact HB.out)⟩⟩
       ·rw [if_neg c8] at H
        have c8b0:decide (a1<(wrap64 ((rd l0 x18_1)-2)))=false:=decide_eq_false c8
        clear c8
        (first | rw [c8b0] | (simp only [i64_w,i32_w];rw [c8b0]) | skip)
        have H':=Aside0.mk H
        clear H
        go_wp2
        go_meet
        case rel=>exact⟨_,(decide (a1>(wrap64 ((rd l0 x18_1)+2)))),(by first | rfl | (simp;done) | (simp [*];done)),H',⟨by have:=HK1.out;first | omega | exact Nat.le_refl _⟩,⟨by repeat (first | (with_reducible first | exact HB.out | apply below_alloc | apply pw_below_drewN | apply below_drew1) | exact HB.out)⟩⟩
      case rest=>
       clear HC7
       try clear p2
       try clear p3
       try clear q3
       try clear hx3
       try clear c4
       try clear c4b0
       try clear c5
       try clear c5b0
       try clear c6
       try clear c6b0
       try clear p6
       try clear c8
       try clear c8b0
       try clear hx301_0
       try clear p2
       try clear p301
       try clear q301
       obtain⟨kq,x32_6,rfl,HA,HJ6,HB⟩:=hcut
       cases kq with
       | zero=>exact absurd HA.out (by simp [spec_qrAlign.j1])
       | succ kj6=>
        have H:=HA.out
        clear HA
        simp only [spec_qrAlign.j1] at H
        by_cases c9:x32_6=true
        ·subst c9
         have H1:(spec_qrAlign.l0 kj6 l0 a1 a2 (wrap64 ((l0.length:Int)-1)) l0 (l0.length:Int) (wrap64 (x18_1+1)))=some r:=by rw [if_pos rfl] at H;exact H
         clear H
         have H:=H1
         clear H1
         have H':=Aside0.mk H
         clear H
         go_wp2
         go_roundg kj6
         case measure=>have:=HK1.out;have:=HJ6.out;omega
         case rel=>exact⟨(wrap64 (x18_1+1)),(by first | rfl | (simp;done) | (simp [*];done)),H',⟨by have:=HK1.out;have:=HJ6.out;omega⟩,⟨by repeat (first | (with_reducible first | exact HB.out | apply below_alloc | apply pw_below_drewN | apply below_drew1) | exact HB.out)⟩⟩
        ·replace c9:=Bool.eq_false_iff.mpr c9
         subst c9
         have H1:(spec_qrAlign.l1 kj6 l0 a1 a2 (wrap64 ((l0.length:Int)-1)) x18_1 (rd l0 x18_1) l0 (l0.length:Int) x18_1 l0 (l0.length:Int) 0)=some r:=by rw [if_neg (show ¬ (false=true) by decide)] at H;exact H
         clear H
         have H:=H1
         clear H1
         have H':=Aside0.mk H
         clear H
         go_wp2
         go_loopg [35] kj6 (fun kq v35 w'=>∃ (x35_3:Int),v35=.int .i64 x35_3/\Aside0 (spec_qrAlign.l1 kq l0 a1 a2 (wrap64 ((l0.length:Int)-1)) x18_1 (rd l0 x18_1) l0 (l0.length:Int) x18_1 l0 (l0.length:Int) x35_3=some r)/\Aside0 (kq<=kj6)/\Aside0 (Below w.heap.size w w'))
         case atStart=>exact⟨(0),(by first | rfl | (simp;done) | (simp [*];done)),H',⟨Nat.le_refl _⟩,⟨by repeat (first | (with_reducible first | exact HB.out | apply below_alloc | apply pw_below_drewN | apply below_drew1) | exact HB.out)⟩⟩
         case round=>
          clear H'
          try clear p2
          try clear p3
          try clear q3
          try clear hx3
          try clear c4
          try clear c4b0
          try clear c5
          try clear c5b0
          try clear c6
          try clear c6b0
          try clear p6
          try clear c8
          try clear c8b0
          try clear c9
          try clear hx301_0
          try clear p2
          try clear p3
          try clear p301
          try clear p6
          try clear q3
          try clear q301
          obtain⟨x35_3,rfl,HA,HK3,HB⟩:=hrel
          cases gk with
          | zero=>exact absurd HA.out (by simp [spec_qrAlign.l1])
          | succ k3=>
           have H:=HA.out
           clear HA
           simp only [spec_qrAlign.l1] at H
           by_cases c10:x35_3<(l0.length:Int)
           ·rw [if_pos c10] at H
            have c10b0:decide (x35_3<(l0.length:Int))=true:=decide_eq_true c10
            clear c10
            by_cases c11:0<=x35_3
            ·rw [if_pos c11] at H
             have c11b0:decide (0<=x35_3)=true:=decide_eq_true c11
             clear c11
             by_cases c12:x35_3<(l0.length:Int)
             ·rw [if_pos c12] at H
              have c12b0:decide (x35_3<(l0.length:Int))=true:=decide_eq_true c12
              clear c12
              have HC13:=Aside0.mk H
              clear H
              have p302:0<=(x35_3:Int):=of_decide_eq_true (by first | (with_reducible assumption) | assumption)
              have q302:x35_3<(l0.length:Int):=of_decide_eq_true (by first | (with_reducible assumption) | assumption)
              obtain⟨ad302,e302,hx302_0⟩:=Kd.at_int HR0.out x35_3 p302 q302
              obtain rfl:ad301=ad302:=(by injection e302)
              replace hx302_0:=(HB.out.cell (World.block_lt_of_cell? w _ hx302_0)).trans hx302_0
              replace p302:=eq_true p302
              replace q302:=eq_true q302
              go_upto_region 9 with (fail)
              go_cut [59] (fun v59 wc=>∃ (kq:Nat) (x59_12:Bool),v59=.bool x59_12/\Aside0 (spec_qrAlign.j3 kq l0 a1 a2 (wrap64 ((l0.length:Int)-1)) x18_1 (rd l0 x18_1) (rd l0 x35_3) l0 (l0.length:Int) x18_1 l0 (l0.length:Int) x35_3 x59_12=some r)/\Aside0 (kq<=k3)/\Aside0 (Below w.heap.size w wc))
              case first=>
               have H:=HC13.out
               clear HC13
               by_cases c14:x18_1=0
               ·rw [if_pos c14] at H
                have c14b0:(x18_1==0)=true:=beq_iff_eq.mpr c14
                have c14b1:(x18_1 != 0)=false:=bne_eq_false_iff_eq.mpr c14
                clear c14
                (first | rw [c14b0] | (simp only [i64_w,i32_w];rw [c14b0]) | skip)
                by_cases c15:x35_3=0
                ·rw [if_pos c15] at H
                 have c15b0:(x35_3==0)=true:=beq_iff_eq.mpr c15
                 have c15b1:(x35_3 != 0)=false:=bne_eq_false_iff_eq.mpr c15
                 clear c15
                 have H':=Aside0.mk H
                 clear H
                 go_wp2
                 go_meet
                 case rel=>exact⟨_,(true),(by first | rfl | (simp;done) | (simp [*];done)),H',⟨by have:=HK1.out;have:=HJ6.out;have:=HK3.out;first | omega | exact Nat.le_refl _⟩,⟨by repeat (first | (with_reducible first | exact HB.out | apply below_alloc | apply pw_below_drewN | apply below_drew1) | exact HB.out)⟩⟩
                ·rw [if_neg c15] at H
                 have c15b0:(x35_3==0)=false:=beq_eq_false_iff_ne.mpr c15
                 have c15b1:(x35_3 != 0)=true:=bne_iff_ne.mpr c15
                 by_cases c16:x35_3=(wrap64 ((l0.length:Int)-1))
                 ·rw [if_pos c16] at H
                  have c16b0:(x35_3==(wrap64 ((l0.length:Int)-1)))=true:=beq_iff_eq.mpr c16
                  have c16b1:(x35_3 != (wrap64 ((l0.length:Int)-1)))=false:=bne_eq_false_iff_eq.mpr c16
                  clear c16
                  have H':=Aside0.mk H
                  clear H
                  go_wp2
                  go_meet
                  case rel=>exact⟨_,(true),(by first | rfl | (simp;done) | (simp [*];done)),H',⟨by have:=HK1.out;have:=HJ6.out;have:=HK3.out;first | omega | exact Nat.le_refl _⟩,⟨by repeat (first | (with_reducible first | exact HB.out | apply below_alloc | apply pw_below_drewN | apply below_drew1) | exact HB.out)⟩⟩
                 ·rw [if_neg c16] at H
                  have c16b0:(x35_3==(wrap64 ((l0.length:Int)-1)))=false:=beq_eq_false_iff_ne.mpr c16
                  have c16b1:(x35_3 != (wrap64 ((l0.length:Int)-1)))=true:=bne_iff_ne.mpr c16
                  by_cases c17:x18_1=(wrap64 ((l0.length:Int)-1))
                  ·rw [if_pos c17] at H
                   have c17b0:(x18_1==(wrap64 ((l0.length:Int)-1)))=true:=beq_iff_eq.mpr c17
                   have c17b1:(x18_1 != (wrap64 ((l0.length:Int)-1)))=false:=bne_eq_false_iff_eq.mpr c17
                   clear c17
                   have H':=Aside0.mk H
                   clear H
                   go_wp2
                   go_meet
                   case rel=>exact⟨_,((x35_3==0)),(by first | rfl | (simp;done) | (simp [*];done)),H',⟨by have:=HK1.out;have:=HJ6.out;have:=HK3.out;first | omega | exact Nat.le_refl _⟩,⟨by repeat (first | (with_reducible first | exact HB.out | apply below_alloc | apply pw_below_drewN | apply below_drew1) | exact HB.out)⟩⟩
                  ·rw [if_neg c17] at H
                   have c17b0:(x18_1==(wrap64 ((l0.length:Int)-1)))=false:=beq_eq_false_iff_ne.mpr c17
                   have c17b1:(x18_1 != (wrap64 ((l0.length:Int)-1)))=true:=bne_iff_ne.mpr c17
                   have H':=Aside0.mk H
                   clear H
                   go_wp2
                   go_meet
                   case rel=>exact⟨_,(false),(by first | rfl | (simp;done) | (simp [*];done)),H',⟨by have:=HK1.out;have:=HJ6.out;have:=HK3.out;first | omega | exact Nat.le_refl _⟩,⟨by repeat (first | (with_reducible first | exact HB.out | apply below_alloc | apply pw_below_drewN | apply below_drew1) | exact HB.out)⟩⟩
               ·rw [if_neg c14] at H
                have c14b0:(x18_1==0)=false:=beq_eq_false_iff_ne.mpr c14
                have c14b1:(x18_1 != 0)=true:=bne_iff_ne.mpr c14
                (first | rw [c14b0] | (simp only [i64_w,i32_w];rw [c14b0]) | skip)
                by_cases c18:x18_1=(wrap64 ((l0.length:Int)-1))
                ·rw [if_pos c18] at H
                 have c18b0:(x18_1==(wrap64 ((l0.length:Int)-1)))=true:=beq_iff_eq.mpr c18
                 have c18b1:(x18_1 != (wrap64 ((l0.length:Int)-1)))=false:=bne_eq_false_iff_eq.mpr c18
                 clear c18
                 have H':=Aside0.mk H
                 clear H
                 go_wp2
                 go_meet
                 case rel=>exact⟨_,((x35_3==0)),(by first | rfl | (simp;done) | (simp [*];done)),H',⟨by have:=HK1.out;have:=HJ6.out;have:=HK3.out;first | omega | exact Nat.le_refl _⟩,⟨by repeat (first | (with_reducible first | exact HB.out | apply below_alloc | apply pw_below_drewN | apply below_drew1) | exact HB.out)⟩⟩
                ·rw [if_neg c18] at H
                 have c18b0:(x18_1==(wrap64 ((l0.length:Int)-1)))=false:=beq_eq_false_iff_ne.mpr c18
                 have c18b1:(x18_1 != (wrap64 ((l0.length:Int)-1)))=true:=bne_iff_ne.mpr c18
                 have H':=Aside0.mk H
                 clear H
                 go_wp2
                 go_meet
                 case rel=>exact⟨_,(false),(by first | rfl | (simp;done) | (simp [*];done)),H',⟨by have:=HK1.out;have:=HJ6.out;have:=HK3.out;first | omega | exact Nat.le_refl _⟩,⟨by repeat (first | (with_reducible first | exact HB.out | apply below_alloc | apply pw_below_drewN | apply below_drew1) | exact HB.out)⟩⟩
              case rest=>
               clear HC13
               try clear c1
               try clear p2
               try clear p3
               try clear q3
               try clear hx3
               try clear c4
               try clear c4b0
               try clear c5
               try clear c5b0
               try clear c6
               try clear c6b0
               try clear p6
               try clear c8
               try clear c8b0
               try clear c9
               try clear c10
               try clear c10b0
               try clear c11
               try clear c11b0
               try clear c12
               try clear c12b0
               try clear c14
               try clear c14b0
               try clear c14b1
               try clear c15
               try clear c15b0
               try clear c15b1
               try clear c16
               try clear c16b0
               try clear c16b1
               try clear c17
               try clear c17b0
               try clear c17b1
               try clear c18
               try clear c18b0
               try clear c18b1
               try clear hx301_0
               try clear hx302_0
               try clear p2
               try clear p3
               try clear p301
               try clear p302
               try clear p6
               try clear q3
               try clear q301
               try clear q302
               obtain⟨kq,x59_12,rfl,HA,HJ12,HB⟩:=hcut
               cases kq with
               | zero=>exact absurd HA.out (by simp [spec_qrAlign.j3])
               | succ kj12=>
                have H:=HA.out
                clear HA
                simp only [spec_qrAlign.j3] at H
                by_cases c19:x59_12=true
                ·subst c19
                 have H1:(spec_qrAlign.l1 kj12 l0 a1 a2 (wrap64 ((l0.length:Int)-1)) x18_1 (rd l0 x18_1) l0 (l0.length:Int) x18_1 l0 (l0.length:Int) (wrap64 (x35_3+1)))=some r:=by rw [if_pos rfl] at H;exact H
                 clear H
                 have H:=H1
                 clear H1
                 have H':=Aside0.mk H
                 clear H
                 go_wp2
                 go_roundg kj12
                 case measure=>have:=HK1.out;have:=HJ6.out;have:=HK3.out;have:=HJ12.out;omega
                 case rel=>exact⟨(wrap64 (x35_3+1)),(by first | rfl | (simp;done) | (simp [*];done)),H',⟨by have:=HK1.out;have:=HJ6.out;have:=HK3.out;have:=HJ12.out;omega⟩,⟨by repeat (first | (with_reducible first | exact HB.out | apply below_alloc | apply pw_below_drewN | apply below_drew1) | exact HB.out)⟩⟩
                ·replace c19:=Bool.eq_false_iff.mpr c19
                 subst c19
                 have H1:((spec_qrFar.f a1 a2 (rd l0 x18_1) (rd l0 x35_3)).bind fun t303=>(if t303<=2 then (some t303) else (spec_qrAlign.l1 kj12 l0 a1 a2 (wrap64 ((l0.length:Int)-1)) x18_1 (rd l0 x18_1) l0 (l0.length:Int) x18_1 l0 (l0.length:Int) (wrap64 (x35_3+1)))))=some r:=by rw [if_neg (show ¬ (false=true) by decide)] at H;exact H
                 clear H
                 have H:=H1
                 clear H1
                 replace H:=Option.bind_eq_some_iff.mp H
                 obtain⟨t303,A200,H⟩:=H
                 replace H:(if t303<=2 then (some t303) else (spec_qrAlign.l1 kj12 l0 a1 a2 (wrap64 ((l0.length:Int)-1)) x18_1 (rd l0 x18_1) l0 (l0.length:Int) x18_1 l0 (l0.length:Int) (wrap64 (x35_3+1))))=some r:=H
                 have A20:=Aside0.mk A200
                 clear A200
                 by_cases c21:t303<=2
                 ·rw [if_pos c21] at H
                  have c21b0:decide (t303<=2)=true:=decide_eq_true c21
                  clear c21
                  obtain rfl:=Option.some.inj H
                  go_wp2_with (first | ((with_reducible refine gate_callee (f:=98) rfl ?_);refine goesL_ (some 64) rfl rfl Tryz.func98 (by kernel_rfl) rfl #[.int .i64 a1,.int .i64 a2,.int .i64 (rd l0 x18_1),.int .i64 (rd l0 x35_3)] rfl (by (try simp only [List.map_toArray,List.map_cons,List.map_nil]);first | done | rfl | (simp only [List.length_drop,List.length_take];rfl)) ?_;(with_reducible refine (spec_qrFar.calls a1 a2 (rd l0 x18_1) (rd l0 x35_3) t303 _ A20.out).mono ?_);rintro e w22 ⟨rfl,hb⟩;refine⟨_,rfl,?_⟩;have n0_:=Aside0.mk (below_step (by repeat (first | (with_reducible first | exact HB.out | apply below_alloc | apply pw_below_drewN | apply below_drew1) | exact HB.out)) hb);clear HB;have HB:=n0_;clear n0_;(try clear hb);(try clear hb2);(try clear hk);(try clear hi)))
                  go_ret
                  exact⟨by first | rfl | (simp [errW_none,errW_some]<;>rfl) | (simp [*,errW_none,errW_some]<;>rfl),by repeat (first | (with_reducible first | exact HB.out | apply below_alloc | apply pw_below_drewN | apply below_drew1) | exact HB.out)⟩
                 ·rw [if_neg c21] at H
                  have c21b0:decide (t303<=2)=false:=decide_eq_false c21
                  clear c21
                  have H':=Aside0.mk H
                  clear H
                  go_wp2_with (first | ((with_reducible refine gate_callee (f:=98) rfl ?_);refine goesL_ (some 64) rfl rfl Tryz.func98 (by kernel_rfl) rfl #[.int .i64 a1,.int .i64 a2,.int .i64 (rd l0 x18_1),.int .i64 (rd l0 x35_3)] rfl (by (try simp only [List.map_toArray,List.map_cons,List.map_nil]);first | done | rfl | (simp only [List.length_drop,List.length_take];rfl)) ?_;(with_reducible refine (spec_qrFar.calls a1 a2 (rd l0 x18_1) (rd l0 x35_3) t303 _ A20.out).mono ?_);rintro e w23 ⟨rfl,hb⟩;refine⟨_,rfl,?_⟩;have n0_:=Aside0.mk (below_step (by repeat (first | (with_reducible first | exact HB.out | apply below_alloc | apply pw_below_drewN | apply below_drew1) | exact HB.out)) hb);clear HB;have HB:=n0_;clear n0_;(try clear hb);(try clear hb2);(try clear hk);(try clear hi)))
                  go_roundg kj12
                  case measure=>have:=HK1.out;have:=HJ6.out;have:=HK3.out;have:=HJ12.out;omega
                  case rel=>exact⟨(wrap64 (x35_3+1)),(by first | rfl | (simp;done) | (simp [*];done)),H',⟨by have:=HK1.out;have:=HJ6.out;have:=HK3.out;have:=HJ12.out;omega⟩,⟨by repeat (first | (with_reducible first | exact HB.out | apply below_alloc | apply pw_below_drewN | apply below_drew1) | exact HB.out)⟩⟩
             ·rw [if_neg c12] at H
              exact absurd H (by simp)
            ·rw [if_neg c11] at H
             exact absurd H (by simp)
           ·rw [if_neg c10] at H
            have c10b0:decide (x35_3<(l0.length:Int))=false:=decide_eq_false c10
            clear c10
            have H':=Aside0.mk H
            clear H
            go_wp2
            go_roundg k3
            case measure=>have:=HK1.out;have:=HJ6.out;have:=HK3.out;omega
            case rel=>exact⟨(wrap64 (x18_1+1)),(by first | rfl | (simp;done) | (simp [*];done)),H',⟨by have:=HK1.out;have:=HJ6.out;have:=HK3.out;omega⟩,⟨by repeat (first | (with_reducible first | exact HB.out | apply below_alloc | apply pw_below_drewN | apply below_drew1) | exact HB.out)⟩⟩
     ·rw [if_neg c6] at H
      exact absurd H (by simp)
    ·rw [if_neg c5] at H
     exact absurd H (by simp)
   ·rw [if_neg c4] at H
    have c4b0:decide (x18_1<(l0.length:Int))=false:=decide_eq_false c4
    clear c4
    obtain rfl:=Option.some.inj H
    go_wp2
    go_ret
    exact⟨by first | rfl | (simp [errW_none,errW_some]<;>rfl) | (simp [*,errW_none,errW_some]<;>rfl),by repeat (first | (with_reducible first | exact HB.out | apply below_alloc | apply pw_below_drewN | apply below_drew1) | exact HB.out)⟩
end Go.Proofs.YtgccjgpdjkhpdaaGreat.F
namespace Go.Proofs.YtgccjgpdjkhpdaaGreat.F
open Go.RowKit Go.Proofs.YtgccjgpdjkhpdaaGreatW.PrintWords Go.Proofs.YtgccjgpdjkhpdaaGreatW.PrintLast Go.Proofs.YtgccjgpdjkhpdaaGreatW.PrintMore
attribute [local go_sem] max2_int min2_int max_two min_two max_three min_three max_four min_four
set_option linter.unusedVariables false
set_option linter.unusedSimpArgs false
mutual
def spec_qrGiven.j0:Nat->Int->List Int->Int->Int->Int->Bool->Option (Bool)
 | 0,_,_,_,_,_,_=>none
 | k+1,x0,x1,x2,x3,x9,x12=>if x12=true then (spec_qrGiven.j2 k x0 x1 x2 x3 x9 x12) else (if x2≥(wrap64 (x9-8)) then (spec_qrGiven.j1 k x0 x1 x2 x3 x9 (decide (x3<=8))) else (spec_qrGiven.j1 k x0 x1 x2 x3 x9 false))
def spec_qrGiven.j2:Nat->Int->List Int->Int->Int->Int->Bool->Option (Bool)
 | 0,_,_,_,_,_,_=>none
 | k+1,x0,x1,x2,x3,x9,x12=>if x12=true then (some true) else (if x0≥7 then (if x2<=5 then (if x3≥(wrap64 (x9-11)) then (some true) else (if x3<=5 then (if x2≥(wrap64 (x9-11)) then (some true) else ((spec_qrAlign.f k x1 x2 x3).bind fun t305=>(some (decide (t305≥0))))) else ((spec_qrAlign.f k x1 x2 x3).bind fun t306=>(some (decide (t306≥0)))))) else (if x3<=5 then (if x2≥(wrap64 (x9-11)) then (some true) else ((spec_qrAlign.f k x1 x2 x3).bind fun t307=>(some (decide (t307≥0))))) else ((spec_qrAlign.f k x1 x2 x3).bind fun t308=>(some (decide (t308≥0)))))) else ((spec_qrAlign.f k x1 x2 x3).bind fun t309=>(some (decide (t309≥0)))))
def spec_qrGiven.j1:Nat->Int->List Int->Int->Int->Int->Bool->Option (Bool)
 | 0,_,_,_,_,_,_=>none
 | k+1,x0,x1,x2,x3,x9,x12=>if x12=true then (spec_qrGiven.j2 k x0 x1 x2 x3 x9 x12) else (if x2=6 then (spec_qrGiven.j2 k x0 x1 x2 x3 x9 (x2==6)) else (spec_qrGiven.j2 k x0 x1 x2 x3 x9 (x3==6)))
end
def spec_qrGiven.f (k:Nat)(a0:Int)(l1:List Int)(a2:Int)(a3:Int):Option (Bool):=(spec_QRDimension.f a0).bind fun t304=>(if a2<=8 then (if a3<=8 then (spec_qrGiven.j0 k a0 l1 a2 a3 t304 true) else (spec_qrGiven.j0 k a0 l1 a2 a3 t304 (decide (a3≥(wrap64 (t304-8)))))) else (spec_qrGiven.j0 k a0 l1 a2 a3 t304 false))
theorem spec_qrGiven.mono_l:∀ k,(∀ y0 y1 y2 y3 y4 y5,LeO (spec_qrGiven.j0 k y0 y1 y2 y3 y4 y5) (spec_qrGiven.j0 (k+1) y0 y1 y2 y3 y4 y5))/\(∀ y0 y1 y2 y3 y4 y5,LeO (spec_qrGiven.j2 k y0 y1 y2 y3 y4 y5) (spec_qrGiven.j2 (k+1) y0 y1 y2 y3 y4 y5))/\(∀ y0 y1 y2 y3 y4 y5,LeO (spec_qrGiven.j1 k y0 y1 y2 y3 y4 y5) (spec_qrGiven.j1 (k+1) y0 y1 y2 y3 y4 y5))
 | 0=>⟨fun _ _ _ _ _ _ r h=>by simp [spec_qrGiven.j0] at h,fun _ _ _ _ _ _ r h=>by simp [spec_qrGiven.j2] at h,fun _ _ _ _ _ _ r h=>by simp [spec_qrGiven.j1] at h⟩
 | k+1=>by
  obtain⟨ih0,ih1,ih2⟩:=spec_qrGiven.mono_l k
  refine⟨?_,?_,?_⟩
  ·intro y0 y1 y2 y3 y4 y5
   unfold spec_qrGiven.j0
   repeat' first
   | (with_reducible exact ih0 _ _ _ _ _ _)
   | (with_reducible exact ih1 _ _ _ _ _ _)
   | (with_reducible exact ih2 _ _ _ _ _ _)
   | (with_reducible exact spec_qrAlign.mono _ _ _ _)
   | (with_reducible exact LeO.refl _)
   | (with_reducible exact LeO.none _)
   | (with_reducible refine LeO.ite ?_ ?_)
   | (with_reducible refine LeO.bind ?_ (fun _=>?_))
   | exact ih0 _ _ _ _ _ _
   | exact ih1 _ _ _ _ _ _
   | exact ih2 _ _ _ _ _ _
   | exact spec_qrAlign.mono _ _ _ _
   | exact LeO.none _
   | refine LeO.ite ?_ ?_
   | refine LeO.bind ?_ (fun _=>?_)
  ·intro y0 y1 y2 y3 y4 y5
   unfold spec_qrGiven.j2
   repeat' first
   | (with_reducible exact ih0 _ _ _ _ _ _)
   | (with_reducible exact ih1 _ _ _ _ _ _)
   | (with_reducible exact ih2 _ _ _ _ _ _)
   | (with_reducible exact spec_qrAlign.mono _ _ _ _)
   | (with_reducible exact LeO.refl _)
   | (with_reducible exact LeO.none _)
   | (with_reducible refine LeO.ite ?_ ?_)
   | (with_reducible refine LeO.bind ?_ (fun _=>?_))
   | exact ih0 _ _ _ _ _ _
   | exact ih1 _ _ _ _ _ _
   | exact ih2 _ _ _ _ _ _
   | exact spec_qrAlign.mono _ _ _ _
   | exact LeO.none _
   | refine LeO.ite ?_ ?_
   | refine LeO.bind ?_ (fun _=>?_)
  ·intro y0 y1 y2 y3 y4 y5
   unfold spec_qrGiven.j1
   repeat' first
   | (with_reducible exact ih0 _ _ _ _ _ _)
   | (with_reducible exact ih1 _ _ _ _ _ _)
   | (with_reducible exact ih2 _ _ _ _ _ _)
   | (with_reducible exact spec_qrAlign.mono _ _ _ _)
   | (with_reducible exact LeO.refl _)
   | (with_reducible exact LeO.none _)
   | (with_reducible refine LeO.ite ?_ ?_)
   | (with_reducible refine LeO.bind ?_ (fun _=>?_))
   | exact ih0 _ _ _ _ _ _
   | exact ih1 _ _ _ _ _ _
   | exact ih2 _ _ _ _ _ _
   | exact spec_qrAlign.mono _ _ _ _
   | exact LeO.none _
   | refine LeO.ite ?_ ?_
   | refine LeO.bind ?_ (fun _=>?_)
theorem spec_qrGiven.mono:∀ a0 a1 a2 a3 k,LeO (spec_qrGiven.f k a0 a1 a2 a3) (spec_qrGiven.f (k+1) a0 a1 a2 a3):=by
 intro a0 a1 a2 a3 k
 obtain⟨ih0,ih1,ih2⟩:=spec_qrGiven.mono_l k
 unfold spec_qrGiven.f
 repeat' first
   | (with_reducible exact ih0 _ _ _ _ _ _)
   | (with_reducible exact ih1 _ _ _ _ _ _)
   | (with_reducible exact ih2 _ _ _ _ _ _)
   | (with_reducible exact spec_qrAlign.mono _ _ _ _)
   | (with_reducible exact LeO.refl _)
   | (with_reducible exact LeO.none _)
   | (with_reducible refine LeO.ite ?_ ?_)
   | (with_reducible refine LeO.bind ?_ (fun _=>?_))
   | exact ih0 _ _ _ _ _ _
   | exact ih1 _ _ _ _ _ _
   | exact ih2 _ _ _ _ _ _
   | exact spec_qrAlign.mono _ _ _ _
   | exact LeO.none _
   | refine LeO.ite ?_ ?_
   | refine LeO.bind ?_ (fun _=>?_)
set_option maxHeartbeats 8000000 in
set_option maxRecDepth 100000 in
theorem spec_qrGiven.calls (k:Nat)(a0:Int)(A1:Option Addr)(c1:Nat)(l1:List Int)(a2:Int)(a3:Int)(r:Bool)(w:World)(hr1:Kd.C (Kd.int .i64) w A1 l1.length l1)(hc1:l1.length<=c1)(h:spec_qrGiven.f k a0 l1 a2 a3=some r) :
  Calls Tryz.prog 49 #[.int .i64 a0,.slice A1 l1.length c1,.int .i64 a2,.int .i64 a3] w fun e w'=>e=.returned (.bool r)/\Below w.heap.size w w':=by
 have HR1:=Aside0.mk hr1
 have HC1:=Aside0.mk hc1
 clear hr1 hc1
 have HB:=Aside0.mk (Below.refl w.heap.size w)
 have H:((spec_QRDimension.f a0).bind fun t304=>(if a2<=8 then (if a3<=8 then (spec_qrGiven.j0 k a0 l1 a2 a3 t304 true) else (spec_qrGiven.j0 k a0 l1 a2 a3 t304 (decide (a3≥(wrap64 (t304-8)))))) else (spec_qrGiven.j0 k a0 l1 a2 a3 t304 false)))=some r:=h
 clear h
 replace H:=Option.bind_eq_some_iff.mp H
 obtain⟨t304,A50,H⟩:=H
 replace H:(if a2<=8 then (if a3<=8 then (spec_qrGiven.j0 k a0 l1 a2 a3 t304 true) else (spec_qrGiven.j0 k a0 l1 a2 a3 t304 (decide (a3≥(wrap64 (t304-8)))))) else (spec_qrGiven.j0 k a0 l1 a2 a3 t304 false))=some r:=H
 have A5:=Aside0.mk A50
 clear A50
 have HC6:=Aside0.mk H
 clear H
 go_enter Tryz.func49,Tryz.ntmps49
 go_upto_region 2 with (first | ((with_reducible refine gate_callee (f:=46) rfl ?_);refine goesL_ (some 11) rfl rfl Tryz.func46 (by kernel_rfl) rfl #[.int .i64 a0] rfl (by (try simp only [List.map_toArray,List.map_cons,List.map_nil]);first | done | rfl | (simp only [List.length_drop,List.length_take];rfl)) ?_;(with_reducible refine (spec_QRDimension.calls a0 t304 _ A5.out).mono ?_);rintro e w' ⟨rfl,⟨nd,rfl⟩⟩;refine⟨_,rfl,?_⟩))
 (try simp only [Act.put,List.setIfInBounds_toArray,List.set_cons_zero,List.set_cons_succ])
 go_cut [12] (fun v12 wc=>∃ (kq:Nat) (x12_5:Bool),v12=.bool x12_5/\Aside0 (spec_qrGiven.j0 kq a0 l1 a2 a3 t304 x12_5=some r)/\Aside0 (kq<=k)/\Aside0 (Below w.heap.size w wc))
 case first=>
  have H:=HC6.out
  clear HC6
  by_cases c7:a2<=8
  ·rw [if_pos c7] at H
   have c7b0:decide (a2<=8)=true:=decide_eq_true c7
   clear c7
   (first | rw [c7b0] | (simp only [i64_w,i32_w];rw [c7b0]) | skip)
   by_cases c8:a3<=8
   ·rw [if_pos c8] at H
    have c8b0:decide (a3<=8)=true:=decide_eq_true c8
    clear c8
    have H':=Aside0.mk H
    clear H
    go_wp2
    go_meet
    case rel=>exact⟨_,(true),(by first | rfl | (simp;done) | (simp [*];done)),H',⟨by first | omega | exact Nat.le_refl _⟩,⟨by repeat (first | (with_reducible first | exact HB.out | apply below_alloc | apply pw_below_drewN | apply below_drew1) | exact HB.out)⟩⟩
   ·rw [if_neg c8] at H
    have c8b0:decide (a3<=8)=false:=decide_eq_false c8
    clear c8
    have H':=Aside0.mk H
    clear H
    go_wp2
    go_meet
    case rel=>exact⟨_,(decide (a3≥(wrap64 (t304-8)))),(by first | rfl | (simp;done) | (simp [*];done)),H',⟨by first | omega | exact Nat.le_refl _⟩,⟨by repeat (first | (with_reducible first | exact HB.out | apply below_alloc | apply pw_below_drewN | apply below_drew1) | exact HB.out)⟩⟩
  ·rw [if_neg c7] at H
   have c7b0:decide (a2<=8)=false:=decide_eq_false c7
   clear c7
   (first | rw [c7b0] | (simp only [i64_w,i32_w];rw [c7b0]) | skip)
   have H':=Aside0.mk H
   clear H
   go_wp2
   go_meet
   case rel=>exact⟨_,(false),(by first | rfl | (simp;done) | (simp [*];done)),H',⟨by first | omega | exact Nat.le_refl _⟩,⟨by repeat (first | (with_reducible first | exact HB.out | apply below_alloc | apply pw_below_drewN | apply below_drew1) | exact HB.out)⟩⟩
 case rest=>
  clear HC6
  try clear c1
  try clear p2
  try clear c4
  try clear p6
  try clear c7
  try clear c7b0
  try clear c8
  try clear c8b0
  obtain⟨kq,x12_5,rfl,HA,HJ5,HB⟩:=hcut
  cases kq with
  | zero=>exact absurd HA.out (by simp [spec_qrGiven.j0])
  | succ kj5=>
   have H:=HA.out
   clear HA
   simp only [spec_qrGiven.j0] at H
   have HC9:=Aside0.mk H
   clear H
   go_upto_if 12 with (fail)
   go_cut [12] (fun v12 wc=>∃ (kq:Nat) (x12_8:Bool),v12=.bool x12_8/\Aside0 (spec_qrGiven.j2 kq a0 l1 a2 a3 t304 x12_8=some r)/\Aside0 (kq<=kj5)/\Aside0 (Below w.heap.size w wc))
   case first=>
    have H:=HC9.out
    clear HC9
    by_cases c10:x12_5=true
    ·subst c10
     have H1:(spec_qrGiven.j2 kj5 a0 l1 a2 a3 t304 true)=some r:=by rw [if_pos rfl] at H;exact H
     clear H
     have H:=H1
     clear H1
     have H':=Aside0.mk H
     clear H
     go_wp2
     go_meet
     case rel=>exact⟨_,(true),(by first | rfl | (simp;done) | (simp [*];done)),H',⟨by have:=HJ5.out;first | omega | exact Nat.le_refl _⟩,⟨by repeat (first | (with_reducible first | exact HB.out | apply below_alloc | apply pw_below_drewN | apply below_drew1) | exact HB.out)⟩⟩
    ·replace c10:=Bool.eq_false_iff.mpr c10
     subst c10
     have H1:(if a2≥(wrap64 (t304-8)) then (spec_qrGiven.j1 kj5 a0 l1 a2 a3 t304 (decide (a3<=8))) else (spec_qrGiven.j1 kj5 a0 l1 a2 a3 t304 false))=some r:=by rw [if_neg (show ¬ (false=true) by decide)] at H;exact H
     clear H
     have H:=H1
     clear H1
     have HC11:=Aside0.mk H
     clear H
     go_upto_region 3 with (fail)
     go_cut [12] (fun v12 wc=>∃ (kq:Nat) (x12_10:Bool),v12=.bool x12_10/\Aside0 (spec_qrGiven.j1 kq a0 l1 a2 a3 t304 x12_10=some r)/\Aside0 (kq<=kj5)/\Aside0 (Below w.heap.size w wc))
     case first=>
      have H:=HC11.out
      clear HC11
      by_cases c12:a2≥(wrap64 (t304-8))
      ·rw [if_pos c12] at H
       have c12b0:decide ((wrap64 (t304-8))<=a2)=true:=decide_eq_true c12
       clear c12
       (first | rw [c12b0] | (simp only [i64_w,i32_w];rw [c12b0]) | skip)
       have H':=Aside0.mk H
       clear H
       go_wp2
       go_meet
       case rel=>exact⟨_,(decide (a3<=8)),(by first | rfl | (simp;done) | (simp [*];done)),H',⟨by have:=HJ5.out;first | omega | exact Nat.le_refl _⟩,⟨by repeat (first | (with_reducible first | exact HB.out | apply below_alloc | apply pw_below_drewN | apply below_drew1) | exact HB.out)⟩⟩
      ·rw [if_neg c12] at H
       have c12b0:decide ((wrap64 (t304-8))<=a2)=false:=decide_eq_false c12
       clear c12
       (first | rw [c12b0] | (simp only [i64_w,i32_w];rw [c12b0]) | skip)
       have H':=Aside0.mk H
       clear H
       go_wp2
       go_meet
       case rel=>exact⟨_,(false),(by first | rfl | (simp;done) | (simp [*];done)),H',⟨by have:=HJ5.out;first | omega | exact Nat.le_refl _⟩,⟨by repeat (first | (with_reducible first | exact HB.out | apply below_alloc | apply pw_below_drewN | apply below_drew1) | exact HB.out)⟩⟩
     case rest=>
      clear HC11
      try clear c1
      try clear p2
      try clear c4
      try clear p6
      try clear c7
      try clear c7b0
      try clear c8
      try clear c8b0
      try clear c10
      try clear c12
      try clear c12b0
      try clear p2
      try clear p6
      obtain⟨kq,x12_10,rfl,HA,HJ10,HB⟩:=hcut
      cases kq with
      | zero=>exact absurd HA.out (by simp [spec_qrGiven.j1])
      | succ kj10=>
       have H:=HA.out
       clear HA
       simp only [spec_qrGiven.j1] at H
       by_cases c13:x12_10=true
       ·subst c13
        have H1:(spec_qrGiven.j2 kj10 a0 l1 a2 a3 t304 true)=some r:=by rw [if_pos rfl] at H;exact H
        clear H
        have H:=H1
        clear H1
        have H':=Aside0.mk H
        clear H
        go_wp2
        go_meet
        case rel=>exact⟨_,(true),(by first | rfl | (simp;done) | (simp [*];done)),H',⟨by have:=HJ5.out;have:=HJ10.out;first | omega | exact Nat.le_refl _⟩,⟨by repeat (first | (with_reducible first | exact HB.out | apply below_alloc | apply pw_below_drewN | apply below_drew1) | exact HB.out)⟩⟩
       ·replace c13:=Bool.eq_false_iff.mpr c13
        subst c13
        have H1:(if a2=6 then (spec_qrGiven.j2 kj10 a0 l1 a2 a3 t304 (a2==6)) else (spec_qrGiven.j2 kj10 a0 l1 a2 a3 t304 (a3==6)))=some r:=by rw [if_neg (show ¬ (false=true) by decide)] at H;exact H
        clear H
        have H:=H1
        clear H1
        by_cases c14:a2=6
        ·rw [if_pos c14] at H
         have c14b0:(a2==6)=true:=beq_iff_eq.mpr c14
         have c14b1:(a2 != 6)=false:=bne_eq_false_iff_eq.mpr c14
         clear c14
         have H':=Aside0.mk H
         clear H
         go_wp2
         go_meet
         case rel=>exact⟨_,((a2==6)),(by first | rfl | (simp;done) | (simp [*];done)),H',⟨by have:=HJ5.out;have:=HJ10.out;first | omega | exact Nat.le_refl _⟩,⟨by repeat (first | (with_reducible first | exact HB.out | apply below_alloc | apply pw_below_drewN | apply below_drew1) | exact HB.out)⟩⟩
        ·rw [if_neg c14] at H
         have c14b0:(a2==6)=false:=beq_eq_false_iff_ne.mpr c14
         have c14b1:(a2 != 6)=true:=bne_iff_ne.mpr c14
         have H':=Aside0.mk H
         clear H
         go_wp2
         go_meet
         case rel=>exact⟨_,((a3==6)),(by first | rfl | (simp;done) | (simp [*];done)),H',⟨by have:=HJ5.out;have:=HJ10.out;first | omega | exact Nat.le_refl _⟩,⟨by repeat (first | (with_reducible first | exact HB.out | apply below_alloc | apply pw_below_drewN | apply below_drew1) | exact HB.out)⟩⟩
   case rest=>
    clear HC9
    try clear c1
    try clear p2
    try clear c4
    try clear p6
    try clear c7
    try clear c7b0
    try clear c8
    try clear c8b0
    try clear c10
    try clear c12
    try clear c12b0
    try clear c13
    try clear c14
    try clear c14b0
    try clear c14b1
    try clear p2
    try clear p6
    obtain⟨kq,x12_8,rfl,HA,HJ8,HB⟩:=hcut
    cases kq with
    | zero=>exact absurd HA.out (by simp [spec_qrGiven.j2])
    | succ kj8=>
     have H:=HA.out
     clear HA
     simp only [spec_qrGiven.j2] at H
     by_cases c15:x12_8=true
     ·subst c15
      have H1:(some true)=some r:=by rw [if_pos rfl] at H;exact H
      clear H
      have H:=H1
      clear H1
      obtain rfl:=Option.some.inj H
      go_wp2
      go_ret
      exact⟨by first | rfl | (simp [errW_none,errW_some]<;>rfl) | (simp [*,errW_none,errW_some]<;>rfl),by repeat (first | (with_reducible first | exact HB.out | apply below_alloc | apply pw_below_drewN | apply below_drew1) | exact HB.out)⟩
     ·replace c15:=Bool.eq_false_iff.mpr c15
      subst c15
      have H1:(if a0≥7 then (if a2<=5 then (if a3≥(wrap64 (t304-11)) then (some true) else (if a3<=5 then (if a2≥(wrap64 (t304-11)) then (some true) else ((spec_qrAlign.f kj8 l1 a2 a3).bind fun t305=>(some (decide (t305≥0))))) else ((spec_qrAlign.f kj8 l1 a2 a3).bind fun t306=>(some (decide (t306≥0)))))) else (if a3<=5 then (if a2≥(wrap64 (t304-11)) then (some true) else ((spec_qrAlign.f kj8 l1 a2 a3).bind fun t307=>(some (decide (t307≥0))))) else ((spec_qrAlign.f kj8 l1 a2 a3).bind fun t308=>(some (decide (t308≥0)))))) else ((spec_qrAlign.f kj8 l1 a2 a3).bind fun t309=>(some (decide (t309≥0)))))=some r:=by rw [if_neg (show ¬ (false=true) by decide)] at H;exact H
      clear H
      have H:=H1
      clear H1
      by_cases c16:a0≥7
      ·rw [if_pos c16] at H
       have c16b0:decide (7<=a0)=true:=decide_eq_true c16
       clear c16
       by_cases c17:a2<=5
       ·rw [if_pos c17] at H
        have c17b0:decide (a2<=5)=true:=decide_eq_true c17
        clear c17
        by_cases c18:a3≥(wrap64 (t304-11))
        ·rw [if_pos c18] at H
         have c18b0:decide ((wrap64 (t304-11))<=a3)=true:=decide_eq_true c18
         clear c18
         obtain rfl:=Option.some.inj H
         go_wp2
         go_ret
         exact⟨by first | rfl | (simp [errW_none,errW_some]<;>rfl) | (simp [*,errW_none,errW_some]<;>rfl),by repeat (first | (with_reducible first | exact HB.out | apply below_alloc | apply pw_below_drewN | apply below_drew1) | exact HB.out)⟩
        ·rw [if_neg c18] at H
         have c18b0:decide ((wrap64 (t304-11))<=a3)=false:=decide_eq_false c18
         clear c18
         by_cases c19:a3<=5
         ·rw [if_pos c19] at H
          have c19b0:decide (a3<=5)=true:=decide_eq_true c19
          clear c19
          by_cases c20:a2≥(wrap64 (t304-11))
          ·rw [if_pos c20] at H
           have c20b0:decide ((wrap64 (t304-11))<=a2)=true:=decide_eq_true c20
           clear c20
           obtain rfl:=Option.some.inj H
           go_wp2
           go_ret
           exact⟨by first | rfl | (simp [errW_none,errW_some]<;>rfl) | (simp [*,errW_none,errW_some]<;>rfl),by repeat (first | (with_reducible first | exact HB.out | apply below_alloc | apply pw_below_drewN | apply below_drew1) | exact HB.out)⟩
          ·rw [if_neg c20] at H
           have c20b0:decide ((wrap64 (t304-11))<=a2)=false:=decide_eq_false c20
           clear c20
           replace H:=Option.bind_eq_some_iff.mp H
           obtain⟨t305,A210,H⟩:=H
           replace H:(some (decide (t305≥0)))=some r:=H
           have A21:=Aside0.mk A210
           clear A210
           obtain rfl:=Option.some.inj H
           go_wp2_with (first | ((with_reducible refine gate_callee (f:=96) rfl ?_);refine goesL_ (some 63) rfl rfl Tryz.func96 (by kernel_rfl) rfl #[.slice A1 l1.length c1,.int .i64 a2,.int .i64 a3] rfl (by (try simp only [List.map_toArray,List.map_cons,List.map_nil]);first | done | rfl | (simp only [List.length_drop,List.length_take];rfl)) ?_;(with_reducible refine (spec_qrAlign.calls kj8 _ _ l1 a2 a3 t305 _ ?side1 ?side2 A21.out).mono ?_);(case side1=>repeat (first | exact (Kd.C_below HR1.out HB.out) | (with_reducible refine Kd.C_alloc ?_ _) | (with_reducible refine Kd.C_drewN ?_ _) | (with_reducible refine Kd.C_drew ?_)));(case side2=>exact HC1.out);rintro e w22 ⟨rfl,hb⟩;refine⟨_,rfl,?_⟩;have n0_:=Aside0.mk (below_step (by repeat (first | (with_reducible first | exact HB.out | apply below_alloc | apply pw_below_drewN | apply below_drew1) | exact HB.out)) hb);clear HB;have HB:=n0_;clear n0_;(try clear hb);(try clear hb2);(try clear hk);(try clear hi)))
           go_ret
           exact⟨by first | rfl | (simp [errW_none,errW_some]<;>rfl) | (simp [*,errW_none,errW_some]<;>rfl),by repeat (first | (with_reducible first | exact HB.out | apply below_alloc | apply pw_below_drewN | apply below_drew1) | exact HB.out)⟩
         ·rw [if_neg c19] at H
          have c19b0:decide (a3<=5)=false:=decide_eq_false c19
          clear c19
          replace H:=Option.bind_eq_some_iff.mp H
          obtain⟨t306,A230,H⟩:=H
          replace H:(some (decide (t306≥0)))=some r:=H
          have A23:=Aside0.mk A230
          clear A230
          obtain rfl:=Option.some.inj H
          go_wp2_with (first | ((with_reducible refine gate_callee (f:=96) rfl ?_);refine goesL_ (some 63) rfl rfl Tryz.func96 (by kernel_rfl) rfl #[.slice A1 l1.length c1,.int .i64 a2,.int .i64 a3] rfl (by (try simp only [List.map_toArray,List.map_cons,List.map_nil]);first | done | rfl | (simp only [List.length_drop,List.length_take];rfl)) ?_;(with_reducible refine (spec_qrAlign.calls kj8 _ _ l1 a2 a3 t306 _ ?side1 ?side2 A23.out).mono ?_);(case side1=>repeat (first | exact (Kd.C_below HR1.out HB.out) | (with_reducible refine Kd.C_alloc ?_ _) | (with_reducible refine Kd.C_drewN ?_ _) | (with_reducible refine Kd.C_drew ?_)));(case side2=>exact HC1.out);rintro e w24 ⟨rfl,hb⟩;refine⟨_,rfl,?_⟩;have n0_:=Aside0.mk (below_step (by repeat (first | (with_reducible first | exact HB.out | apply below_alloc | apply pw_below_drewN | apply below_drew1) | exact HB.out)) hb);clear HB;have HB:=n0_;clear n0_;(try clear hb);(try clear hb2);(try clear hk);(try clear hi)))
          go_ret
          exact⟨by first | rfl | (simp [errW_none,errW_some]<;>rfl) | (simp [*,errW_none,errW_some]<;>rfl),by repeat (first | (with_reducible first | exact HB.out | apply below_alloc | apply pw_below_drewN | apply below_drew1) | exact HB.out)⟩
       ·rw [if_neg c17] at H
        have c17b0:decide (a2<=5)=false:=decide_eq_false c17
        clear c17
        by_cases c25:a3<=5
        ·rw [if_pos c25] at H
         have c25b0:decide (a3<=5)=true:=decide_eq_true c25
         clear c25
         by_cases c26:a2≥(wrap64 (t304-11))
         ·rw [if_pos c26] at H
          have c26b0:decide ((wrap64 (t304-11))<=a2)=true:=decide_eq_true c26
          clear c26
          obtain rfl:=Option.some.inj H
          go_wp2
          go_ret
          exact⟨by first | rfl | (simp [errW_none,errW_some]<;>rfl) | (simp [*,errW_none,errW_some]<;>rfl),by repeat (first | (with_reducible first | exact HB.out | apply below_alloc | apply pw_below_drewN | apply below_drew1) | exact HB.out)⟩
         ·rw [if_neg c26] at H
          have c26b0:decide ((wrap64 (t304-11))<=a2)=false:=decide_eq_false c26
          clear c26
          replace H:=Option.bind_eq_some_iff.mp H
          obtain⟨t307,A270,H⟩:=H
          replace H:(some (decide (t307≥0)))=some r:=H
          have A27:=Aside0.mk A270
          clear A270
          obtain rfl:=Option.some.inj H
          go_wp2_with (first | ((with_reducible refine gate_callee (f:=96) rfl ?_);refine goesL_ (some 63) rfl rfl Tryz.func96 (by kernel_rfl) rfl #[.slice A1 l1.length c1,.int .i64 a2,.int .i64 a3] rfl (by (try simp only [List.map_toArray,List.map_cons,List.map_nil]);first | done | rfl | (simp only [List.length_drop,List.length_take];rfl)) ?_;(with_reducible refine (spec_qrAlign.calls kj8 _ _ l1 a2 a3 t307 _ ?side1 ?side2 A27.out).mono ?_);(case side1=>repeat (first | exact (Kd.C_below HR1.out HB.out) | (with_reducible refine Kd.C_alloc ?_ _) | (with_reducible refine Kd.C_drewN ?_ _) | (with_reducible refine Kd.C_drew ?_)));(case side2=>exact HC1.out);rintro e w28 ⟨rfl,hb⟩;refine⟨_,rfl,?_⟩;have n0_:=Aside0.mk (below_step (by repeat (first | (with_reducible first | exact HB.out | apply below_alloc | apply pw_below_drewN | apply below_drew1) | exact HB.out)) hb);clear HB;have HB:=n0_;clear n0_;(try clear hb);(try clear hb2);(try clear hk);(try clear hi)))
          go_ret
          exact⟨by first | rfl | (simp [errW_none,errW_some]<;>rfl) | (simp [*,errW_none,errW_some]<;>rfl),by repeat (first | (with_reducible first | exact HB.out | apply below_alloc | apply pw_below_drewN | apply below_drew1) | exact HB.out)⟩
        ·rw [if_neg c25] at H
         have c25b0:decide (a3<=5)=false:=decide_eq_false c25
         clear c25
         replace H:=Option.bind_eq_some_iff.mp H
         obtain⟨t308,A290,H⟩:=H
         replace H:(some (decide (t308≥0)))=some r:=H
         have A29:=Aside0.mk A290
         clear A290
         obtain rfl:=Option.some.inj H
         go_wp2_with (first | ((with_reducible refine gate_callee (f:=96) rfl ?_);refine goesL_ (some 63) rfl rfl Tryz.func96 (by kernel_rfl) rfl #[.slice A1 l1.length c1,.int .i64 a2,.int .i64 a3] rfl (by (try simp only [List.map_toArray,List.map_cons,List.map_nil]);first | done | rfl | (simp only [List.length_drop,List.length_take];rfl)) ?_;(with_reducible refine (spec_qrAlign.calls kj8 _ _ l1 a2 a3 t308 _ ?side1 ?side2 A29.out).mono ?_);(case side1=>repeat (first | exact (Kd.C_below HR1.out HB.out) | (with_reducible refine Kd.C_alloc ?_ _) | (with_reducible refine Kd.C_drewN ?_ _) | (with_reducible refine Kd.C_drew ?_)));(case side2=>exact HC1.out);rintro e w30 ⟨rfl,hb⟩;refine⟨_,rfl,?_⟩;have n0_:=Aside0.mk (below_step (by repeat (first | (with_reducible first | exact HB.out | apply below_alloc | apply pw_below_drewN | apply below_drew1) | exact HB.out)) hb);clear HB;have HB:=n0_;clear n0_;(try clear hb);(try clear hb2);(try clear hk);(try clear hi)))
         go_ret
         exact⟨by first | rfl | (simp [errW_none,errW_some]<;>rfl) | (simp [*,errW_none,errW_some]<;>rfl),by repeat (first | (with_reducible first | exact HB.out | apply below_alloc | apply pw_below_drewN | apply below_drew1) | exact HB.out)⟩
      ·rw [if_neg c16] at H
       have c16b0:decide (7<=a0)=false:=decide_eq_false c16
       clear c16
       replace H:=Option.bind_eq_some_iff.mp H
       obtain⟨t309,A310,H⟩:=H
       replace H:(some (decide (t309≥0)))=some r:=H
       have A31:=Aside0.mk A310
       clear A310
       obtain rfl:=Option.some.inj H
       go_wp2_with (first | ((with_reducible refine gate_callee (f:=96) rfl ?_);refine goesL_ (some 63) rfl rfl Tryz.func96 (by kernel_rfl) rfl #[.slice A1 l1.length c1,.int .i64 a2,.int .i64 a3] rfl (by (try simp only [List.map_toArray,List.map_cons,List.map_nil]);first | done | rfl | (simp only [List.length_drop,List.length_take];rfl)) ?_;(with_reducible refine (spec_qrAlign.calls kj8 _ _ l1 a2 a3 t309 _ ?side1 ?side2 A31.out).mono ?_);(case side1=>repeat (first | exact (Kd.C_below HR1.out HB.out) | (with_reducible refine Kd.C_alloc ?_ _) | (with_reducible refine Kd.C_drewN ?_ _) | (with_reducible refine Kd.C_drew ?_)));(case side2=>exact HC1.out);rintro e w32 ⟨rfl,hb⟩;refine⟨_,rfl,?_⟩;have n0_:=Aside0.mk (below_step (by repeat (first | (with_reducible first | exact HB.out | apply below_alloc | apply pw_below_drewN | apply below_drew1) | exact HB.out)) hb);clear HB;have HB:=n0_;clear n0_;(try clear hb);(try clear hb2);(try clear hk);(try clear hi)))
       go_ret
       exact⟨by first | rfl | (simp [errW_none,errW_some]<;>rfl) | (simp [*,errW_none,errW_some]<;>rfl),by repeat (first | (with_reducible first | exact HB.out | apply below_alloc | apply pw_below_drewN | apply below_drew1) | exact HB.out)⟩
end Go.Proofs.YtgccjgpdjkhpdaaGreat.F
namespace Go.Proofs.YtgccjgpdjkhpdaaGreat.F
open Go.RowKit Go.Proofs.YtgccjgpdjkhpdaaGreatW.PrintWords Go.Proofs.YtgccjgpdjkhpdaaGreatW.PrintLast Go.Proofs.YtgccjgpdjkhpdaaGreatW.PrintMore
attribute [local go_sem] max2_int min2_int max_two min_two max_three min_three max_four min_four
set_option linter.unusedVariables false
set_option linter.unusedSimpArgs false
mutual
def spec_QRCenters.j0:Nat->Int->Int->Int->Option (List Int)
 | 0,_,_,_=>none
 | k+1,x0,x3,x4=>if 0<=x3 then (if (x3:Int).toNat<=35184372088832 then ((some (List.replicate (x3:Int).toNat 0:List Int)).bind fun y295=>(if 0<(y295.length:Int) then (spec_QRCenters.l0 k x0 x3 x4 (y295.set (0:Int).toNat 6) 1) else (none))) else (none)) else (none)
def spec_QRCenters.l0:Nat->Int->Int->Int->List Int->Int->Option (List Int)
 | 0,_,_,_,_,_=>none
 | k+1,x0,x3,x4,x5,x6=>if x6<x3 then ((spec_QRDimension.f x0).bind fun t299=>(if 0<=x6 then (if x6<(x5.length:Int) then (spec_QRCenters.l0 k x0 x3 x4 (x5.set (x6:Int).toNat (wrap64 ((wrap64 (t299-7))-(wrap64 (x4*(wrap64 ((wrap64 (x3-1))-x6))))))) (wrap64 (x6+1))) else (none)) else (none))) else (some x5)
end
def spec_QRCenters.f (k:Nat)(a0:Int):Option (List Int):=if a0=1 then (some ([]:List Int)) else (if (wrap64 ((wrap64 ((wrap64 ((wrap64 (Int.tdiv a0 7))+2))*2))-2))=0 then (none) else (if a0=32 then (spec_QRCenters.j0 k a0 (wrap64 ((wrap64 (Int.tdiv a0 7))+2)) 26) else (spec_QRCenters.j0 k a0 (wrap64 ((wrap64 (Int.tdiv a0 7))+2)) (wrap64 ((wrap64 (Int.tdiv (wrap64 ((wrap64 ((wrap64 (a0*4))+(wrap64 ((wrap64 ((wrap64 (Int.tdiv a0 7))+2))*2))))+1)) (wrap64 ((wrap64 ((wrap64 ((wrap64 (Int.tdiv a0 7))+2))*2))-2))))*2)))))
theorem spec_QRCenters.mono_l:∀ k,(∀ y0 y1 y2,LeO (spec_QRCenters.j0 k y0 y1 y2) (spec_QRCenters.j0 (k+1) y0 y1 y2))/\(∀ y0 y1 y2 y3 y4,LeO (spec_QRCenters.l0 k y0 y1 y2 y3 y4) (spec_QRCenters.l0 (k+1) y0 y1 y2 y3 y4))
 | 0=>⟨fun _ _ _ r h=>by simp [spec_QRCenters.j0] at h,fun _ _ _ _ _ r h=>by simp [spec_QRCenters.l0] at h⟩
 | k+1=>by
  obtain⟨ih0,ih1⟩:=spec_QRCenters.mono_l k
  refine⟨?_,?_⟩
  ·intro y0 y1 y2
   unfold spec_QRCenters.j0
   repeat' first
   | (with_reducible exact ih0 _ _ _)
   | (with_reducible exact ih1 _ _ _ _ _)
   | (with_reducible exact LeO.refl _)
   | (with_reducible exact LeO.none _)
   | (with_reducible refine LeO.ite ?_ ?_)
   | (with_reducible refine LeO.bind ?_ (fun _=>?_))
   | exact ih0 _ _ _
   | exact ih1 _ _ _ _ _
   | exact LeO.none _
   | refine LeO.ite ?_ ?_
   | refine LeO.bind ?_ (fun _=>?_)
  ·intro y0 y1 y2 y3 y4
   unfold spec_QRCenters.l0
   repeat' first
   | (with_reducible exact ih0 _ _ _)
   | (with_reducible exact ih1 _ _ _ _ _)
   | (with_reducible exact LeO.refl _)
   | (with_reducible exact LeO.none _)
   | (with_reducible refine LeO.ite ?_ ?_)
   | (with_reducible refine LeO.bind ?_ (fun _=>?_))
   | exact ih0 _ _ _
   | exact ih1 _ _ _ _ _
   | exact LeO.none _
   | refine LeO.ite ?_ ?_
   | refine LeO.bind ?_ (fun _=>?_)
theorem spec_QRCenters.mono:∀ a0 k,LeO (spec_QRCenters.f k a0) (spec_QRCenters.f (k+1) a0):=by
 intro a0 k
 obtain⟨ih0,ih1⟩:=spec_QRCenters.mono_l k
 unfold spec_QRCenters.f
 repeat' first
   | (with_reducible exact ih0 _ _ _)
   | (with_reducible exact ih1 _ _ _ _ _)
   | (with_reducible exact LeO.refl _)
   | (with_reducible exact LeO.none _)
   | (with_reducible refine LeO.ite ?_ ?_)
   | (with_reducible refine LeO.bind ?_ (fun _=>?_))
   | exact ih0 _ _ _
   | exact ih1 _ _ _ _ _
   | exact LeO.none _
   | refine LeO.ite ?_ ?_
   | refine LeO.bind ?_ (fun _=>?_)
set_option maxHeartbeats 8000000 in
set_option maxRecDepth 100000 in
theorem spec_QRCenters.calls (k:Nat)(a0:Int)(r:List Int)(w:World)(h:spec_QRCenters.f k a0=some r) :
  Calls Tryz.prog 48 #[.int .i64 a0] w fun e w'=>∃ v0_:Value,e=.returned (v0_)/\Kd.R (Kd.int .i64) 3 w' w.heap.size (fun _=>True) v0_ r/\Below w.heap.size w w':=by
 have HB:=Aside0.mk (Below.refl w.heap.size w)
 have H:(if a0=1 then (some ([]:List Int)) else (if (wrap64 ((wrap64 ((wrap64 ((wrap64 (Int.tdiv a0 7))+2))*2))-2))=0 then (none) else (if a0=32 then (spec_QRCenters.j0 k a0 (wrap64 ((wrap64 (Int.tdiv a0 7))+2)) 26) else (spec_QRCenters.j0 k a0 (wrap64 ((wrap64 (Int.tdiv a0 7))+2)) (wrap64 ((wrap64 (Int.tdiv (wrap64 ((wrap64 ((wrap64 (a0*4))+(wrap64 ((wrap64 ((wrap64 (Int.tdiv a0 7))+2))*2))))+1)) (wrap64 ((wrap64 ((wrap64 ((wrap64 (Int.tdiv a0 7))+2))*2))-2))))*2))))))=some r:=h
 clear h
 by_cases c2:a0=1
 ·rw [if_pos c2] at H
  have c2b0:(a0==1)=true:=beq_iff_eq.mpr c2
  have c2b1:(a0 != 1)=false:=bne_eq_false_iff_eq.mpr c2
  clear c2
  obtain rfl:=Option.some.inj H
  go_enter Tryz.func48,Tryz.ntmps48
  go_wp2
  go_ret
  exact⟨_,by first | rfl | (simp [errW_none,errW_some]<;>rfl) | (simp [*,errW_none,errW_some]<;>rfl),by first | exact Kd.R_nil _ _ _ _ _ | exact Kd.N_nil _ _ _ _ _ | exact Kd.V_nil _ _ _ _ _ | exact Kd.Q_nil _ _ _ _ _ | exact Kd.S_nil _ _ _ _ _,by repeat (first | (with_reducible first | exact HB.out | apply below_alloc | apply pw_below_drewN | apply below_drew1) | exact HB.out)⟩
 ·rw [if_neg c2] at H
  have c2b0:(a0==1)=false:=beq_eq_false_iff_ne.mpr c2
  have c2b1:(a0 != 1)=true:=bne_iff_ne.mpr c2
  by_cases c3:(wrap64 ((wrap64 ((wrap64 ((wrap64 (Int.tdiv a0 7))+2))*2))-2))=0
  ·rw [if_pos c3] at H
   exact absurd H (by simp)
  ·rw [if_neg c3] at H
   have c3b0:((wrap64 ((wrap64 ((wrap64 ((wrap64 (Int.tdiv a0 7))+2))*2))-2))==0)=false:=beq_eq_false_iff_ne.mpr c3
   have c3b1:((wrap64 ((wrap64 ((wrap64 ((wrap64 (Int.tdiv a0 7))+2))*2))-2)) != 0)=true:=bne_iff_ne.mpr c3
   have HC4:=Aside0.mk H
   clear H
   go_enter Tryz.func48,Tryz.ntmps48
   go_upto_if 24 with (fail)
   go_cut [4] (fun v4 wc=>∃ (kq:Nat) (x4_3:Int),v4=.int .i64 x4_3/\Aside0 (spec_QRCenters.j0 kq a0 (wrap64 ((wrap64 (Int.tdiv a0 7))+2)) x4_3=some r)/\Aside0 (kq<=k)/\Aside0 (Below w.heap.size w wc))
   case first=>
    have H:=HC4.out
    clear HC4
    by_cases c5:a0=32
    ·rw [if_pos c5] at H
     have c5b0:(a0==32)=true:=beq_iff_eq.mpr c5
     have c5b1:(a0 != 32)=false:=bne_eq_false_iff_eq.mpr c5
     clear c5
     (first | rw [c5b0] | (simp only [i64_w,i32_w];rw [c5b0]) | skip)
     have H':=Aside0.mk H
     clear H
     go_wp2
     go_meet
     case rel=>exact⟨_,(26),(by first | rfl | (simp;done) | (simp [*];done)),H',⟨by first | omega | exact Nat.le_refl _⟩,⟨by repeat (first | (with_reducible first | exact HB.out | apply below_alloc | apply pw_below_drewN | apply below_drew1) | exact HB.out)⟩⟩
    ·rw [if_neg c5] at H
     have c5b0:(a0==32)=false:=beq_eq_false_iff_ne.mpr c5
     have c5b1:(a0 != 32)=true:=bne_iff_ne.mpr c5
     (first | rw [c5b0] | (simp only [i64_w,i32_w];rw [c5b0]) | skip)
     have H':=Aside0.mk H
     clear H
     go_wp2
     go_meet
     case rel=>exact⟨_,(wrap64 ((wrap64 (Int.tdiv (wrap64 ((wrap64 ((wrap64 (a0*4))+(wrap64 ((wrap64 ((wrap64 (Int.tdiv a0 7))+2))*2))))+1)) (wrap64 ((wrap64 ((wrap64 ((wrap64 (Int.tdiv a0 7))+2))*2))-2))))*2)),(by first | rfl | (simp;done) | (simp [*];done)),H',⟨by first | omega | exact Nat.le_refl _⟩,⟨by repeat (first | (with_reducible first | exact HB.out | apply below_alloc | apply pw_below_drewN | apply below_drew1) | exact HB.out)⟩⟩
   case rest=>
    clear HC4
    try clear c2
    try clear c2b0
    try clear c2b1
    try clear p2
    try clear c3
    try clear c3b0
    try clear c3b1
    try clear c4
    try clear c5
    try clear c5b0
    try clear c5b1
    obtain⟨kq,x4_3,rfl,HA,HJ3,HB⟩:=hcut
    cases kq with
    | zero=>exact absurd HA.out (by simp [spec_QRCenters.j0])
    | succ kj3=>
     have H:=HA.out
     clear HA
     simp only [spec_QRCenters.j0] at H
     obtain⟨ji6,hji6⟩:∃ j_:Int,(wrap64 ((wrap64 (Int.tdiv a0 7))+2))=j_:=⟨_,rfl⟩
     replace H:(if 0<=(ji6) then (if ((ji6):Int).toNat<=35184372088832 then ((some (List.replicate ((ji6):Int).toNat 0:List Int)).bind fun y295=>(if 0<(y295.length:Int) then (spec_QRCenters.l0 kj3 a0 (ji6) x4_3 (y295.set (0:Int).toNat 6) 1) else (none))) else (none)) else (none))=some r:=by first | (rw [hji6] at H;exact H) | (simp only [hji6] at H ⊢;exact H)
     (try rw [hji6] at c3b0)
     (try rw [hji6] at c3b1)
     have hji6w:(IntKind.i64.wrap ((wrap64 (Int.tdiv a0 7))+2))=ji6:=(i64_w _).trans hji6
     by_cases c7:0<=(ji6)
     ·rw [if_pos c7] at H
      have c7b0:=eq_true c7
      have c7b1:decide (0<=(ji6))=true:=decide_eq_true c7
      clear c7
      by_cases c8:((ji6):Int).toNat<=35184372088832
      ·rw [if_pos c8] at H
       have c8b0:=eq_true c8
       have c8b1:decide (((ji6):Int).toNat<=35184372088832)=true:=decide_eq_true c8
       clear c8
       obtain⟨y295,hy295⟩:∃ y_:List Int,y_=(List.replicate ((ji6):Int).toNat 0):=⟨_,rfl⟩
       replace H:(if 0<(y295.length:Int) then (spec_QRCenters.l0 kj3 a0 (ji6) x4_3 (y295.set (0:Int).toNat 6) 1) else (none))=some r:=by first | (rw [hy295];with_reducible exact H) | (have H2_:=(Option.bind_some _ _).symm.trans H;rw [hy295];with_reducible exact H2_) | (have H2_:=(Option.bind_some _ _).symm.trans H;with_reducible exact H2_) | with_reducible exact H | (rw [hy295];exact H) | exact H
       have Ny295:=Aside0.mk hy295
       clear hy295
       by_cases c9:0<(y295.length:Int)
       ·rw [if_pos c9] at H
        have c9b0:decide (0<(y295.length:Int))=true:=decide_eq_true c9
        have c9b1:decide (0<y295.length)=true:=decide_eq_true (by omega)
        clear c9
        obtain⟨y298,hy298⟩:∃ y_:List Int,y_=(y295.set (0:Int).toNat 6):=⟨_,rfl⟩
        replace H:(spec_QRCenters.l0 kj3 a0 (ji6) x4_3 y298 1)=some r:=by first | (rw [hy298];with_reducible exact H) | (have H2_:=(Option.bind_some _ _).symm.trans H;rw [hy298];with_reducible exact H2_) | (have H2_:=(Option.bind_some _ _).symm.trans H;with_reducible exact H2_) | with_reducible exact H | (rw [hy298];exact H) | exact H
        have Ny298:=Aside0.mk hy298
        clear hy298
        have H':=Aside0.mk H
        clear H
        try rw [hji6]
        go_wp2_with (first | ((with_reducible refine gate_dst (N:=26) rfl ?_);refine Kd.R_make (Kd.int .i64) _ 3 rfl (N:=26) rfl 93 _ _ rfl (ji6) rfl rfl Tryz.underlying93 (.int .i64 0) 8 info3 rfl (by decide) (by omega) 0 (ok:=fun _=>True) (okp:=fun _=>True) rfl (fun _ hk=>hk) trivial (of_decide_eq_true (by first | (with_reducible assumption) | assumption)) (Nat.le_trans (Nat.mul_le_mul_right _ (of_decide_eq_true (by first | (with_reducible assumption) | assumption):(ji6).toNat<=35184372088832)) (by omega)) (Below.refl _ _) (Nat.le_refl _) ?_;intro v296 w11 ho12 hb hg_ hnew_;clear hg_ hnew_;(first | rw [<- Ny295.out] at ho12 | (simp only [Int.reduceToNat] at ho12;rw [<- Ny295.out] at ho12));have n0_:=Aside0.mk (Kd.R_lower ho12 (below_size (by repeat (first | (with_reducible first | exact HB.out | apply below_alloc | apply pw_below_drewN | apply below_drew1) | exact HB.out))));have n1_:=Aside0.mk (below_step (by repeat (first | (with_reducible first | exact HB.out | apply below_alloc | apply pw_below_drewN | apply below_drew1) | exact HB.out)) hb);clear HB;have HO297:=n0_;have HB:=n1_;clear n0_ n1_;clear hb ho12;have p10:0<=(0:Int):=(by omega);have q10:(0:Int)<((y295.length:Int):Int):=of_decide_eq_true (by first | (with_reducible assumption) | assumption);have qi10:(0<y295.length)=True:=eq_true (by omega);obtain⟨go10,co10,eo10,gb10,gl10,cl10,HG10⟩:=Kd.R_form HO297.out (by omega);(first | cases eo10 | (injection eo10 with ea_ en_ ec_;(first | subst ea_ | (injection ea_ with ea_;subst ea_));subst ec_;clear en_));have GB10:=Aside0.mk gb10;have GG10:=Aside0.mk HG10;clear gb10 gl10 HG10;obtain⟨hx10_0,hf10_0⟩:=Kd.R_celln 0 HO297.out (0:Int) p10 q10;(try rw [show ((0:Int)).toNat=0 from rfl] at hx10_0);(try simp only [Nat.reduceMul,Nat.zero_mul,Nat.zero_add,Nat.reduceAdd] at hx10_0);(try rw [show ((0:Int)).toNat=0 from rfl] at hf10_0);(try simp only [Nat.reduceMul,Nat.zero_mul,Nat.zero_add,Nat.reduceAdd] at hf10_0);replace p10:=eq_true p10;replace q10:=eq_true q10;obtain⟨hy13_,hz13_⟩:=Kd.R_celln 0 HO297.out (0:Int) (by omega) (of_decide_eq_true (by first | (with_reducible assumption) | assumption));(try simp only [Int.reduceToNat,Int.toNat_zero,Int.toNat_ofNat,Nat.reduceMul,Nat.zero_mul,Nat.zero_add] at hy13_ hz13_);(try rw [show ((0:Int)).toNat=0 from rfl] at hy13_);(try rw [show ((0:Int)).toNat=0 from rfl] at hz13_);have HP13:=Kd.R_putg HO297.out (0:Int) 6) | ((with_reducible refine gate_store (t:=3) (p:=28) rfl ?_);refine store_event (t:=3) (p:=28) (v:=?vo_w14) (w1:=(w11.setCell ⟨go10,(0:Int).toNat,none⟩ (.int .i64 6))) ?hg ?ho ?hn ?hr ?_;(case ho=>rfl);(case hg=>rfl);(case hn=>rfl);(case hr=>first | (go_simp;done) | (go_simp;rfl) | (obtain⟨Av_,cv_,ev_⟩:=Kd.R_slice HO297.out;subst ev_;first | (go_simp;done) | (go_simp;rfl)));intro w14 hw;have hg:w11.grownBy w14 (some go10):=(by rw [hw];exact HP13.2);have hp_:Kd.R (Kd.int .i64) 3 w14 w.heap.size (fun _=>True) (.slice (some ⟨go10,0,none⟩) y295.length co10) y298:=(by rw [hw,Ny298.out];exact HP13.1);clear HP13;have n0_:=Aside0.mk (hp_);have n1_:=Aside0.mk ((by rw [hw];exact below_set (HB.out) GB10.out:Below w.heap.size w w14));clear HO297;clear HB;have HO297:=n0_;have HB:=n1_;clear n0_ n1_;clear hg hw hp_))
        go_loopg [6] kj3 (fun kq v6 w'=>∃ (x5_2:List Int) (x6_2:Int),v6=.int .i64 x6_2/\Aside0 (spec_QRCenters.l0 kq a0 (ji6) x4_3 x5_2 x6_2=some r)/\Aside0 (kq<=kj3)/\Aside0 (Kd.R (Kd.int .i64) 3 w' w.heap.size (fun _=>True) (.slice (some ⟨go10,0,none⟩) y295.length co10) x5_2)/\Aside0 (Below w.heap.size w w'))
        case atStart=>exact⟨(y298),(1),(by first | rfl | (simp;done) | (simp [*];done)),H',⟨Nat.le_refl _⟩,⟨by (with_reducible repeat (first | apply Kd.R_alloc | apply Kd.R_drewN | apply Kd.R_drew));exact HO297.out⟩,⟨by repeat (first | (with_reducible first | exact HB.out | apply below_alloc | apply pw_below_drewN | apply below_drew1) | exact HB.out)⟩⟩
        case round=>
         clear H'
         try clear p1
         try clear q1
         try clear hx1
         try clear qi1
         try clear hf1
         try clear c2
         try clear c2b0
         try clear c2b1
         try clear p2
         try clear c3
         try clear c3b0
         try clear c3b1
         try clear c4
         try clear c5
         try clear c5b0
         try clear c5b1
         try clear p6
         try clear c7
         try clear c7b0
         try clear c7b1
         try clear c8
         try clear c8b0
         try clear c8b1
         try clear c9
         try clear c9b0
         try clear c9b1
         try clear p10
         try clear q10
         try clear hx10
         try clear qi10
         try clear hf10
         try clear hx10_0
         try clear p10
         try clear p2
         try clear q10
         obtain⟨x5_2,x6_2,rfl,HA,HK2,HO_5,HB⟩:=hrel
         have hl5_2:=(Kd.R_reads' HO_5.out).1
         rw [hl5_2] at HO_5
         (try simp only [hl5_2])
         cases gk with
         | zero=>exact absurd HA.out (by simp [spec_QRCenters.l0])
         | succ k2=>
          have H:=HA.out
          clear HA
          simp only [spec_QRCenters.l0] at H
          by_cases c15:x6_2<(ji6)
          ·rw [if_pos c15] at H
           have c15b0:decide (x6_2<(ji6))=true:=decide_eq_true c15
           clear c15
           replace H:=Option.bind_eq_some_iff.mp H
           obtain⟨t299,A160,H⟩:=H
           replace H:(if 0<=x6_2 then (if x6_2<(x5_2.length:Int) then (spec_QRCenters.l0 k2 a0 (ji6) x4_3 (x5_2.set (x6_2:Int).toNat (wrap64 ((wrap64 (t299-7))-(wrap64 (x4_3*(wrap64 ((wrap64 ((ji6)-1))-x6_2))))))) (wrap64 (x6_2+1))) else (none)) else (none))=some r:=H
           have A16:=Aside0.mk A160
           clear A160
           by_cases c17:0<=x6_2
           ·rw [if_pos c17] at H
            have c17b0:decide (0<=x6_2)=true:=decide_eq_true c17
            clear c17
            by_cases c18:x6_2<(x5_2.length:Int)
            ·rw [if_pos c18] at H
             have c18b0:decide (x6_2<(x5_2.length:Int))=true:=decide_eq_true c18
             clear c18
             obtain⟨y300,hy300⟩:∃ y_:List Int,y_=(x5_2.set (x6_2:Int).toNat (wrap64 ((wrap64 (t299-7))-(wrap64 (x4_3*(wrap64 ((wrap64 ((ji6)-1))-x6_2))))))):=⟨_,rfl⟩
             replace H:(spec_QRCenters.l0 k2 a0 (ji6) x4_3 y300 (wrap64 (x6_2+1)))=some r:=by first | (rw [hy300];with_reducible exact H) | (have H2_:=(Option.bind_some _ _).symm.trans H;rw [hy300];with_reducible exact H2_) | (have H2_:=(Option.bind_some _ _).symm.trans H;with_reducible exact H2_) | with_reducible exact H | (rw [hy300];exact H) | exact H
             have Ny300:=Aside0.mk hy300
             clear hy300
             have H':=Aside0.mk H
             clear H
             go_wp2_with (first | ((with_reducible refine gate_callee (f:=46) rfl ?_);refine goesL_ (some 37) rfl rfl Tryz.func46 (by kernel_rfl) rfl #[.int .i64 a0] rfl (by (try simp only [List.map_toArray,List.map_cons,List.map_nil]);first | done | rfl | (simp only [List.length_drop,List.length_take];rfl)) ?_;(with_reducible refine (spec_QRDimension.calls a0 t299 _ A16.out).mono ?_);rintro e w' ⟨rfl,⟨nd,rfl⟩⟩;refine⟨_,rfl,?_⟩;(try (rw [drewN_self wr];generalize hq_:World.drewN wr _=wr;have n0_:Aside0 (Kd.R (Kd.int .i64) 3 wr w.heap.size (fun _=>True) (.slice (some ⟨go10,0,none⟩) x5_2.length co10) x5_2):=⟨by rw [<- hq_];exact (by (with_reducible repeat (first | apply Kd.R_alloc | apply Kd.R_drewN | apply Kd.R_drew));exact HO_5.out)⟩;have n1_:Aside0 (Below w.heap.size w wr):=⟨by rw [<- hq_];exact (by repeat (first | (with_reducible first | exact HB.out | apply below_alloc | apply pw_below_drewN | apply below_drew1) | exact HB.out))⟩;clear HO_5 HB hq_;have HO_5:=n0_;have HB:=n1_;clear n0_ n1_));have p19:0<=(x6_2:Int):=of_decide_eq_true (by first | (with_reducible assumption) | assumption);have q19:(x6_2:Int)<((x5_2.length:Int):Int):=of_decide_eq_true (by first | (with_reducible assumption) | assumption);obtain⟨hx19_0,hf19_0⟩:=Kd.R_celln 0 HO_5.out (x6_2:Int) p19 q19;replace p19:=eq_true p19;replace q19:=eq_true q19;obtain⟨hy20_,hz20_⟩:=Kd.R_celln 0 HO_5.out (x6_2:Int) (of_decide_eq_true (by first | (with_reducible assumption) | assumption)) (of_decide_eq_true (by first | (with_reducible assumption) | assumption));have HP20:=Kd.R_putg HO_5.out (x6_2:Int) (wrap64 ((wrap64 (t299-7))-(wrap64 (x4_3*(wrap64 ((wrap64 ((ji6)-1))-x6_2))))))) | ((with_reducible refine gate_store (t:=3) (p:=46) rfl ?_);refine store_event (t:=3) (p:=46) (v:=?vo_w21) (w1:=(wr.setCell ⟨go10,(x6_2:Int).toNat,none⟩ (.int .i64 (wrap64 ((wrap64 (t299-7))-(wrap64 (x4_3*(wrap64 ((wrap64 ((ji6)-1))-x6_2))))))))) ?hg ?ho ?hn ?hr ?_;(case ho=>rfl);(case hg=>rfl);(case hn=>rfl);(case hr=>first | (go_simp;done) | (go_simp;rfl));intro w21 hw;have hg:wr.grownBy w21 (some go10):=(by rw [hw];exact HP20.2);have hp_:Kd.R (Kd.int .i64) 3 w21 w.heap.size (fun _=>True) (.slice (some ⟨go10,0,none⟩) x5_2.length co10) y300:=(by rw [hw,Ny300.out];exact HP20.1);clear HP20;have n0_:=Aside0.mk (hp_);have n1_:=Aside0.mk ((by rw [hw];exact below_set (HB.out) GB10.out:Below w.heap.size w w21));clear HO_5;clear HB;have HO_5:=n0_;have HB:=n1_;clear n0_ n1_;clear hg hw hp_))
             (try simp only [<- hl5_2])
             go_roundg k2
             case measure=>have:=HJ3.out;have:=HK2.out;omega
             case rel=>exact⟨(y300),(wrap64 (x6_2+1)),(by first | rfl | (simp;done) | (simp [*];done)),H',⟨by have:=HJ3.out;have:=HK2.out;omega⟩,⟨by (try simp only [hl5_2]);(with_reducible repeat (first | apply Kd.R_alloc | apply Kd.R_drewN | apply Kd.R_drew));exact HO_5.out⟩,⟨by repeat (first | (with_reducible first | exact HB.out | apply below_alloc | apply pw_below_drewN | apply below_drew1) | exact HB.out)⟩⟩
            ·rw [if_neg c18] at H
             exact absurd H (by simp)
           ·rw [if_neg c17] at H
            exact absurd H (by simp)
          ·rw [if_neg c15] at H
           have c15b0:decide (x6_2<(ji6))=false:=decide_eq_false c15
           clear c15
           obtain rfl:=Option.some.inj H
           go_wp2
           go_ret
           exact⟨_,by first | rfl | (simp [errW_none,errW_some]<;>rfl) | (simp only [<- hji6];first | rfl | (simp [errW_none,errW_some]<;>rfl)) | (simp [*,errW_none,errW_some]<;>rfl),by (with_reducible repeat (first | apply Kd.R_alloc | apply Kd.R_drewN | apply Kd.R_drew));exact HO_5.out,by repeat (first | (with_reducible first | exact HB.out | apply below_alloc | apply pw_below_drewN | apply below_drew1) | exact HB.out)⟩
       ·rw [if_neg c9] at H
        exact absurd H (by simp)
      ·rw [if_neg c8] at H
       exact absurd H (by simp)
     ·rw [if_neg c7] at H
      exact absurd H (by simp)
end Go.Proofs.YtgccjgpdjkhpdaaGreat.F
namespace Go.Proofs.YtgccjgpdjkhpdaaGreat.F
open Go.RowKit Go.Proofs.YtgccjgpdjkhpdaaGreatW.PrintWords Go.Proofs.YtgccjgpdjkhpdaaGreatW.PrintLast Go.Proofs.YtgccjgpdjkhpdaaGreatW.PrintMore
attribute [local go_sem] max2_int min2_int max_two min_two max_three min_three max_four min_four
set_option linter.unusedVariables false
set_option linter.unusedSimpArgs false
def spec_QRRoom.f (k:Nat)(a0:Int):Option (Int):=(spec_QRDimension.f a0).bind fun t347=>((spec_QRCenters.f k a0).bind fun t348=>(if a0≥7 then (if (t348.length:Int)>0 then (some (wrap64 ((wrap64 ((wrap64 ((wrap64 ((wrap64 ((wrap64 (t347*t347))-192))-(wrap64 (2*(wrap64 (t347-16))))))-31))-36))-(wrap64 ((wrap64 (25*(wrap64 ((wrap64 ((t348.length:Int)*(t348.length:Int)))-3))))-(wrap64 (10*(wrap64 ((t348.length:Int)-2))))))))) else (some (wrap64 ((wrap64 ((wrap64 ((wrap64 ((wrap64 (t347*t347))-192))-(wrap64 (2*(wrap64 (t347-16))))))-31))-36)))) else (if (t348.length:Int)>0 then (some (wrap64 ((wrap64 ((wrap64 ((wrap64 ((wrap64 (t347*t347))-192))-(wrap64 (2*(wrap64 (t347-16))))))-31))-(wrap64 ((wrap64 (25*(wrap64 ((wrap64 ((t348.length:Int)*(t348.length:Int)))-3))))-(wrap64 (10*(wrap64 ((t348.length:Int)-2))))))))) else (some (wrap64 ((wrap64 ((wrap64 ((wrap64 (t347*t347))-192))-(wrap64 (2*(wrap64 (t347-16))))))-31))))))
theorem spec_QRRoom.mono:∀ a0 k,LeO (spec_QRRoom.f k a0) (spec_QRRoom.f (k+1) a0):=by
 intro a0 k
 unfold spec_QRRoom.f
 repeat' first
   | (with_reducible exact spec_QRCenters.mono _ _)
   | (with_reducible exact LeO.refl _)
   | (with_reducible exact LeO.none _)
   | (with_reducible refine LeO.ite ?_ ?_)
   | (with_reducible refine LeO.bind ?_ (fun _=>?_))
   | exact spec_QRCenters.mono _ _
   | exact LeO.none _
   | refine LeO.ite ?_ ?_
   | refine LeO.bind ?_ (fun _=>?_)
set_option maxHeartbeats 8000000 in
set_option maxRecDepth 100000 in
theorem spec_QRRoom.calls (k:Nat)(a0:Int)(r:Int)(w:World)(h:spec_QRRoom.f k a0=some r) :
  Calls Tryz.prog 102 #[.int .i64 a0] w fun e w'=>e=.returned (.int .i64 r)/\Below w.heap.size w w':=by
 have HB:=Aside0.mk (Below.refl w.heap.size w)
 have H:((spec_QRDimension.f a0).bind fun t347=>((spec_QRCenters.f k a0).bind fun t348=>(if a0≥7 then (if (t348.length:Int)>0 then (some (wrap64 ((wrap64 ((wrap64 ((wrap64 ((wrap64 ((wrap64 (t347*t347))-192))-(wrap64 (2*(wrap64 (t347-16))))))-31))-36))-(wrap64 ((wrap64 (25*(wrap64 ((wrap64 ((t348.length:Int)*(t348.length:Int)))-3))))-(wrap64 (10*(wrap64 ((t348.length:Int)-2))))))))) else (some (wrap64 ((wrap64 ((wrap64 ((wrap64 ((wrap64 (t347*t347))-192))-(wrap64 (2*(wrap64 (t347-16))))))-31))-36)))) else (if (t348.length:Int)>0 then (some (wrap64 ((wrap64 ((wrap64 ((wrap64 ((wrap64 (t347*t347))-192))-(wrap64 (2*(wrap64 (t347-16))))))-31))-(wrap64 ((wrap64 (25*(wrap64 ((wrap64 ((t348.length:Int)*(t348.length:Int)))-3))))-(wrap64 (10*(wrap64 ((t348.length:Int)-2))))))))) else (some (wrap64 ((wrap64 ((wrap64 ((wrap64 (t347*t347))-192))-(wrap64 (2*(wrap64 (t347-16))))))-31)))))))=some r:=h
 clear h
 replace H:=Option.bind_eq_some_iff.mp H
 obtain⟨t347,A20,H⟩:=H
 replace H:((spec_QRCenters.f k a0).bind fun t348=>(if a0≥7 then (if (t348.length:Int)>0 then (some (wrap64 ((wrap64 ((wrap64 ((wrap64 ((wrap64 ((wrap64 (t347*t347))-192))-(wrap64 (2*(wrap64 (t347-16))))))-31))-36))-(wrap64 ((wrap64 (25*(wrap64 ((wrap64 ((t348.length:Int)*(t348.length:Int)))-3))))-(wrap64 (10*(wrap64 ((t348.length:Int)-2))))))))) else (some (wrap64 ((wrap64 ((wrap64 ((wrap64 ((wrap64 (t347*t347))-192))-(wrap64 (2*(wrap64 (t347-16))))))-31))-36)))) else (if (t348.length:Int)>0 then (some (wrap64 ((wrap64 ((wrap64 ((wrap64 ((wrap64 (t347*t347))-192))-(wrap64 (2*(wrap64 (t347-16))))))-31))-(wrap64 ((wrap64 (25*(wrap64 ((wrap64 ((t348.length:Int)*(t348.length:Int)))-3))))-(wrap64 (10*(wrap64 ((t348.length:Int)-2))))))))) else (some (wrap64 ((wrap64 ((wrap64 ((wrap64 (t347*t347))-192))-(wrap64 (2*(wrap64 (t347-16))))))-31))))))=some r:=H
 have A2:=Aside0.mk A20
 clear A20
 replace H:=Option.bind_eq_some_iff.mp H
 obtain⟨t348,A30,H⟩:=H
 replace H:(if a0≥7 then (if (t348.length:Int)>0 then (some (wrap64 ((wrap64 ((wrap64 ((wrap64 ((wrap64 ((wrap64 (t347*t347))-192))-(wrap64 (2*(wrap64 (t347-16))))))-31))-36))-(wrap64 ((wrap64 (25*(wrap64 ((wrap64 ((t348.length:Int)*(t348.length:Int)))-3))))-(wrap64 (10*(wrap64 ((t348.length:Int)-2))))))))) else (some (wrap64 ((wrap64 ((wrap64 ((wrap64 ((wrap64 (t347*t347))-192))-(wrap64 (2*(wrap64 (t347-16))))))-31))-36)))) else (if (t348.length:Int)>0 then (some (wrap64 ((wrap64 ((wrap64 ((wrap64 ((wrap64 (t347*t347))-192))-(wrap64 (2*(wrap64 (t347-16))))))-31))-(wrap64 ((wrap64 (25*(wrap64 ((wrap64 ((t348.length:Int)*(t348.length:Int)))-3))))-(wrap64 (10*(wrap64 ((t348.length:Int)-2))))))))) else (some (wrap64 ((wrap64 ((wrap64 ((wrap64 (t347*t347))-192))-(wrap64 (2*(wrap64 (t347-16))))))-31)))))=some r:=H
 have A3:=Aside0.mk A30
 clear A30
 by_cases c4:a0≥7
 ·rw [if_pos c4] at H
  have c4b0:decide (7<=a0)=true:=decide_eq_true c4
  clear c4
  by_cases c5:(t348.length:Int)>0
  ·rw [if_pos c5] at H
   have c5b0:decide (0<(t348.length:Int))=true:=decide_eq_true c5
   have c5b1:decide (0<t348.length)=true:=decide_eq_true (by omega)
   clear c5
   obtain rfl:=Option.some.inj H
   go_enter Tryz.func102,Tryz.ntmps102
   go_wp2_with (first | ((with_reducible refine gate_callee (f:=46) rfl ?_);refine goesL_ (some 7) rfl rfl Tryz.func46 (by kernel_rfl) rfl #[.int .i64 a0] rfl (by (try simp only [List.map_toArray,List.map_cons,List.map_nil]);first | done | rfl | (simp only [List.length_drop,List.length_take];rfl)) ?_;(with_reducible refine (spec_QRDimension.calls a0 t347 _ A2.out).mono ?_);rintro e w' ⟨rfl,⟨nd,rfl⟩⟩;refine⟨_,rfl,?_⟩) | ((with_reducible refine gate_callee (f:=48) rfl ?_);refine goesL_ (some 9) rfl rfl Tryz.func48 (by kernel_rfl) rfl #[.int .i64 a0] rfl (by (try simp only [List.map_toArray,List.map_cons,List.map_nil]);first | done | rfl | (simp only [List.length_drop,List.length_take];rfl)) ?_;(with_reducible refine (spec_QRCenters.calls k a0 t348 _ A3.out).mono ?_);rintro e w6 ⟨v349,rfl,ho0,hb⟩;refine⟨_,rfl,?_⟩;have n0_:=Aside0.mk (Kd.R_lower ho0 (below_size (by repeat (first | (with_reducible first | exact HB.out | apply below_alloc | apply pw_below_drewN | apply below_drew1) | exact HB.out))));have n1_:=Aside0.mk (below_step (by repeat (first | (with_reducible first | exact HB.out | apply below_alloc | apply pw_below_drewN | apply below_drew1) | exact HB.out)) hb);clear HB;have HO350:=n0_;have HB:=n1_;clear n0_ n1_;(try clear hb);(try clear hb2);(try clear hk);(try clear hi);(try clear ho0);obtain⟨Ao7,co7,eo7⟩:=Kd.R_slice HO350.out;subst eo7))
   go_ret
   exact⟨by first | rfl | (simp [errW_none,errW_some]<;>rfl) | (simp [*,errW_none,errW_some]<;>rfl),by repeat (first | (with_reducible first | exact HB.out | apply below_alloc | apply pw_below_drewN | apply below_drew1) | exact HB.out)⟩
  ·rw [if_neg c5] at H
   have c5b0:decide (0<(t348.length:Int))=false:=decide_eq_false c5
   have c5b1:decide (0<t348.length)=false:=decide_eq_false (by omega)
   clear c5
   obtain rfl:=Option.some.inj H
   go_enter Tryz.func102,Tryz.ntmps102
   go_wp2_with (first | ((with_reducible refine gate_callee (f:=46) rfl ?_);refine goesL_ (some 7) rfl rfl Tryz.func46 (by kernel_rfl) rfl #[.int .i64 a0] rfl (by (try simp only [List.map_toArray,List.map_cons,List.map_nil]);first | done | rfl | (simp only [List.length_drop,List.length_take];rfl)) ?_;(with_reducible refine (spec_QRDimension.calls a0 t347 _ A2.out).mono ?_);rintro e w' ⟨rfl,⟨nd,rfl⟩⟩;refine⟨_,rfl,?_⟩) | ((with_reducible refine gate_callee (f:=48) rfl ?_);refine goesL_ (some 9) rfl rfl Tryz.func48 (by kernel_rfl) rfl #[.int .i64 a0] rfl (by (try simp only [List.map_toArray,List.map_cons,List.map_nil]);first | done | rfl | (simp only [List.length_drop,List.length_take];rfl)) ?_;(with_reducible refine (spec_QRCenters.calls k a0 t348 _ A3.out).mono ?_);rintro e w8 ⟨v349,rfl,ho0,hb⟩;refine⟨_,rfl,?_⟩;have n0_:=Aside0.mk (Kd.R_lower ho0 (below_size (by repeat (first | (with_reducible first | exact HB.out | apply below_alloc | apply pw_below_drewN | apply below_drew1) | exact HB.out))));have n1_:=Aside0.mk (below_step (by repeat (first | (with_reducible first | exact HB.out | apply below_alloc | apply pw_below_drewN | apply below_drew1) | exact HB.out)) hb);clear HB;have HO350:=n0_;have HB:=n1_;clear n0_ n1_;(try clear hb);(try clear hb2);(try clear hk);(try clear hi);(try clear ho0);obtain⟨Ao9,co9,eo9⟩:=Kd.R_slice HO350.out;subst eo9))
   go_ret
   exact⟨by first | rfl | (simp [errW_none,errW_some]<;>rfl) | (simp [*,errW_none,errW_some]<;>rfl),by repeat (first | (with_reducible first | exact HB.out | apply below_alloc | apply pw_below_drewN | apply below_drew1) | exact HB.out)⟩
 ·rw [if_neg c4] at H
  have c4b0:decide (7<=a0)=false:=decide_eq_false c4
  clear c4
  by_cases c10:(t348.length:Int)>0
  ·rw [if_pos c10] at H
   have c10b0:decide (0<(t348.length:Int))=true:=decide_eq_true c10
   have c10b1:decide (0<t348.length)=true:=decide_eq_true (by omega)
   clear c10
   obtain rfl:=Option.some.inj H
   go_enter Tryz.func102,Tryz.ntmps102
   go_wp2_with (first | ((with_reducible refine gate_callee (f:=46) rfl ?_);refine goesL_ (some 7) rfl rfl Tryz.func46 (by kernel_rfl) rfl #[.int .i64 a0] rfl (by (try simp only [List.map_toArray,List.map_cons,List.map_nil]);first | done | rfl | (simp only [List.length_drop,List.length_take];rfl)) ?_;(with_reducible refine (spec_QRDimension.calls a0 t347 _ A2.out).mono ?_);rintro e w' ⟨rfl,⟨nd,rfl⟩⟩;refine⟨_,rfl,?_⟩) | ((with_reducible refine gate_callee (f:=48) rfl ?_);refine goesL_ (some 9) rfl rfl Tryz.func48 (by kernel_rfl) rfl #[.int .i64 a0] rfl (by (try simp only [List.map_toArray,List.map_cons,List.map_nil]);first | done | rfl | (simp only [List.length_drop,List.length_take];rfl)) ?_;(with_reducible refine (spec_QRCenters.calls k a0 t348 _ A3.out).mono ?_);rintro e w11 ⟨v349,rfl,ho0,hb⟩;refine⟨_,rfl,?_⟩;have n0_:=Aside0.mk (Kd.R_lower ho0 (below_size (by repeat (first | (with_reducible first | exact HB.out | apply below_alloc | apply pw_below_drewN | apply below_drew1) | exact HB.out))));have n1_:=Aside0.mk (below_step (by repeat (first | (with_reducible first | exact HB.out | apply below_alloc | apply pw_below_drewN | apply below_drew1) | exact HB.out)) hb);clear HB;have HO350:=n0_;have HB:=n1_;clear n0_ n1_;(try clear hb);(try clear hb2);(try clear hk);(try clear hi);(try clear ho0);obtain⟨Ao12,co12,eo12⟩:=Kd.R_slice HO350.out;subst eo12))
   go_ret
   exact⟨by first | rfl | (simp [errW_none,errW_some]<;>rfl) | (simp [*,errW_none,errW_some]<;>rfl),by repeat (first | (with_reducible first | exact HB.out | apply below_alloc | apply pw_below_drewN | apply below_drew1) | exact HB.out)⟩
  ·rw [if_neg c10] at H
   have c10b0:decide (0<(t348.length:Int))=false:=decide_eq_false c10
   have c10b1:decide (0<t348.length)=false:=decide_eq_false (by omega)
   clear c10
   obtain rfl:=Option.some.inj H
   go_enter Tryz.func102,Tryz.ntmps102
   go_wp2_with (first | ((with_reducible refine gate_callee (f:=46) rfl ?_);refine goesL_ (some 7) rfl rfl Tryz.func46 (by kernel_rfl) rfl #[.int .i64 a0] rfl (by (try simp only [List.map_toArray,List.map_cons,List.map_nil]);first | done | rfl | (simp only [List.length_drop,List.length_take];rfl)) ?_;(with_reducible refine (spec_QRDimension.calls a0 t347 _ A2.out).mono ?_);rintro e w' ⟨rfl,⟨nd,rfl⟩⟩;refine⟨_,rfl,?_⟩) | ((with_reducible refine gate_callee (f:=48) rfl ?_);refine goesL_ (some 9) rfl rfl Tryz.func48 (by kernel_rfl) rfl #[.int .i64 a0] rfl (by (try simp only [List.map_toArray,List.map_cons,List.map_nil]);first | done | rfl | (simp only [List.length_drop,List.length_take];rfl)) ?_;(with_reducible refine (spec_QRCenters.calls k a0 t348 _ A3.out).mono ?_);rintro e w13 ⟨v349,rfl,ho0,hb⟩;refine⟨_,rfl,?_⟩;have n0_:=Aside0.mk (Kd.R_lower ho0 (below_size (by repeat (first | (with_reducible first | exact HB.out | apply below_alloc | apply pw_below_drewN | apply below_drew1) | exact HB.out))));have n1_:=Aside0.mk (below_step (by repeat (first | (with_reducible first | exact HB.out | apply below_alloc | apply pw_below_drewN | apply below_drew1) | exact HB.out)) hb);clear HB;have HO350:=n0_;have HB:=n1_;clear n0_ n1_;(try clear hb);(try clear hb2);(try clear hk);(try clear hi);(try clear ho0);obtain⟨Ao14,co14,eo14⟩:=Kd.R_slice HO350.out;subst eo14))
   go_ret
   exact⟨by first | rfl | (simp [errW_none,errW_some]<;>rfl) | (simp [*,errW_none,errW_some]<;>rfl),by repeat (first | (with_reducible first | exact HB.out | apply below_alloc | apply pw_below_drewN | apply below_drew1) | exact HB.out)⟩
def spec_QRTotal.f (k:Nat)(a0:Int):Option (Int):=(spec_QRRoom.f k a0).bind fun t351=>(some (wrap64 (Int.tdiv t351 8)))
theorem spec_QRTotal.mono:∀ a0 k,LeO (spec_QRTotal.f k a0) (spec_QRTotal.f (k+1) a0):=by
 intro a0 k
 unfold spec_QRTotal.f
 repeat' first
   | (with_reducible exact spec_QRRoom.mono _ _)
   | (with_reducible exact LeO.refl _)
   | (with_reducible exact LeO.none _)
   | (with_reducible refine LeO.ite ?_ ?_)
   | (with_reducible refine LeO.bind ?_ (fun _=>?_))
   | exact spec_QRRoom.mono _ _
   | exact LeO.none _
   | refine LeO.ite ?_ ?_
   | refine LeO.bind ?_ (fun _=>?_)
set_option maxHeartbeats 8000000 in
set_option maxRecDepth 100000 in
theorem spec_QRTotal.calls (k:Nat)(a0:Int)(r:Int)(w:World)(h:spec_QRTotal.f k a0=some r) :
  Calls Tryz.prog 56 #[.int .i64 a0] w fun e w'=>e=.returned (.int .i64 r)/\Below w.heap.size w w':=by
 have HB:=Aside0.mk (Below.refl w.heap.size w)
 have H:((spec_QRRoom.f k a0).bind fun t351=>(some (wrap64 (Int.tdiv t351 8))))=some r:=h
 clear h
 replace H:=Option.bind_eq_some_iff.mp H
 obtain⟨t351,A20,H⟩:=H
 replace H:(some (wrap64 (Int.tdiv t351 8)))=some r:=H
 have A2:=Aside0.mk A20
 clear A20
 obtain rfl:=Option.some.inj H
 go_enter Tryz.func56,Tryz.ntmps56
 go_wp2_with (first | ((with_reducible refine gate_callee (f:=102) rfl ?_);refine goesL_ (some 4) rfl rfl Tryz.func102 (by kernel_rfl) rfl #[.int .i64 a0] rfl (by (try simp only [List.map_toArray,List.map_cons,List.map_nil]);first | done | rfl | (simp only [List.length_drop,List.length_take];rfl)) ?_;(with_reducible refine (spec_QRRoom.calls k a0 t351 _ A2.out).mono ?_);rintro e w3 ⟨rfl,hb⟩;refine⟨_,rfl,?_⟩;have n0_:=Aside0.mk (below_step (by repeat (first | (with_reducible first | exact HB.out | apply below_alloc | apply pw_below_drewN | apply below_drew1) | exact HB.out)) hb);clear HB;have HB:=n0_;clear n0_;(try clear hb);(try clear hb2);(try clear hk);(try clear hi)))
 go_ret
 exact⟨by first | rfl | (simp [errW_none,errW_some]<;>rfl) | (simp [*,errW_none,errW_some]<;>rfl),by repeat (first | (with_reducible first | exact HB.out | apply below_alloc | apply pw_below_drewN | apply below_drew1) | exact HB.out)⟩
end Go.Proofs.YtgccjgpdjkhpdaaGreat.F
