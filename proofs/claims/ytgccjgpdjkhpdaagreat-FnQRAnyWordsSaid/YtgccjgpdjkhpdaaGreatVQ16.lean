import Derived.Test.YtgccjgpdjkhpdaaGreatVQ3
/-! Own texts of this claim, part 16. -/
namespace Go.Proofs.YtgccjgpdjkhpdaaGreat.F
open Go.RowKit Go.Proofs.YtgccjgpdjkhpdaaGreatW.PrintWords Go.Proofs.YtgccjgpdjkhpdaaGreatW.PrintLast Go.Proofs.YtgccjgpdjkhpdaaGreatW.PrintMore
attribute [local go_sem] max2_int min2_int max_two min_two max_three min_three max_four min_four
set_option linter.unusedVariables false
set_option linter.unusedSimpArgs false
mutual
def spec_qrAlign.l0:Nat->List Int->Int->Int->Int->List Int->Int->Int->Option (Int)
 | 0,_,_,_,_,_,_,_=>none
 | k+1,x0,x1,x2,x7,x16,x17,x18=>if x18<x17 then (if 0<=x18 then (if x18<(x16.length:Int) then (if x1<(wrap64 ((rd x16 x18)-2)) then (spec_qrAlign.j1 k x0 x1 x2 x7 x18 (rd x16 x18) x16 x17 x18 true) else (spec_qrAlign.j1 k x0 x1 x2 x7 x18 (rd x16 x18) x16 x17 x18 (decide (x1>(wrap64 ((rd x16 x18)+2)))))) else (none)) else (none)) else (some (-1))
def spec_qrAlign.j1:Nat->List Int->Int->Int->Int->Int->Int->List Int->Int->Int->Bool->Option (Int)
 | 0,_,_,_,_,_,_,_,_,_,_=>none
 | k+1,x0,x1,x2,x7,x8,x9,x16,x17,x18,x32=>if x32=true then (spec_qrAlign.l0 k x0 x1 x2 x7 x16 x17 (wrap64 (x18+1))) else (spec_qrAlign.l1 k x0 x1 x2 x7 x8 x9 x16 x17 x18 x0 (x0.length:Int) 0)
def spec_qrAlign.l1:Nat->List Int->Int->Int->Int->Int->Int->List Int->Int->Int->List Int->Int->Int->Option (Int)
 | 0,_,_,_,_,_,_,_,_,_,_,_,_=>none
 | k+1,x0,x1,x2,x7,x8,x9,x16,x17,x18,x33,x34,x35=>if x35<x34 then (if 0<=x35 then (if x35<(x33.length:Int) then (if x8=0 then (if x35=0 then (spec_qrAlign.j3 k x0 x1 x2 x7 x8 x9 (rd x33 x35) x16 x17 x18 x33 x34 x35 true) else (if x35=x7 then (spec_qrAlign.j3 k x0 x1 x2 x7 x8 x9 (rd x33 x35) x16 x17 x18 x33 x34 x35 true) else (if x8=x7 then (spec_qrAlign.j3 k x0 x1 x2 x7 x8 x9 (rd x33 x35) x16 x17 x18 x33 x34 x35 (x35==0)) else (spec_qrAlign.j3 k x0 x1 x2 x7 x8 x9 (rd x33 x35) x16 x17 x18 x33 x34 x35 false)))) else (if x8=x7 then (spec_qrAlign.j3 k x0 x1 x2 x7 x8 x9 (rd x33 x35) x16 x17 x18 x33 x34 x35 (x35==0)) else (spec_qrAlign.j3 k x0 x1 x2 x7 x8 x9 (rd x33 x35) x16 x17 x18 x33 x34 x35 false))) else (none)) else (none)) else (spec_qrAlign.l0 k x0 x1 x2 x7 x16 x17 (wrap64 (x18+1)))
def spec_qrAlign.j3:Nat->List Int->Int->Int->Int->Int->Int->Int->List Int->Int->Int->List Int->Int->Int->Bool->Option (Int)
 | 0,_,_,_,_,_,_,_,_,_,_,_,_,_,_=>none
 | k+1,x0,x1,x2,x7,x8,x9,x11,x16,x17,x18,x33,x34,x35,x59=>if x59=true then (spec_qrAlign.l1 k x0 x1 x2 x7 x8 x9 x16 x17 x18 x33 x34 (wrap64 (x35+1))) else ((spec_qrFar.f x1 x2 x9 x11).bind fun t303=>(if t303<=2 then (some t303) else (spec_qrAlign.l1 k x0 x1 x2 x7 x8 x9 x16 x17 x18 x33 x34 (wrap64 (x35+1)))))
end
def spec_qrAlign.f (k:Nat)(l0:List Int)(a1:Int)(a2:Int):Option (Int):=spec_qrAlign.l0 k l0 a1 a2 (wrap64 ((l0.length:Int)-1)) l0 (l0.length:Int) 0
theorem spec_qrAlign.mono_l:∀ k,(∀ y0 y1 y2 y3 y4 y5 y6,LeO (spec_qrAlign.l0 k y0 y1 y2 y3 y4 y5 y6) (spec_qrAlign.l0 (k+1) y0 y1 y2 y3 y4 y5 y6))/\(∀ y0 y1 y2 y3 y4 y5 y6 y7 y8 y9,LeO (spec_qrAlign.j1 k y0 y1 y2 y3 y4 y5 y6 y7 y8 y9) (spec_qrAlign.j1 (k+1) y0 y1 y2 y3 y4 y5 y6 y7 y8 y9))/\(∀ y0 y1 y2 y3 y4 y5 y6 y7 y8 y9 y10 y11,LeO (spec_qrAlign.l1 k y0 y1 y2 y3 y4 y5 y6 y7 y8 y9 y10 y11) (spec_qrAlign.l1 (k+1) y0 y1 y2 y3 y4 y5 y6 y7 y8 y9 y10 y11))/\(∀ y0 y1 y2 y3 y4 y5 y6 y7 y8 y9 y10 y11 y12 y13,LeO (spec_qrAlign.j3 k y0 y1 y2 y3 y4 y5 y6 y7 y8 y9 y10 y11 y12 y13) (spec_qrAlign.j3 (k+1) y0 y1 y2 y3 y4 y5 y6 y7 y8 y9 y10 y11 y12 y13))
 | 0=>⟨fun _ _ _ _ _ _ _ r h=>by simp [spec_qrAlign.l0] at h,fun _ _ _ _ _ _ _ _ _ _ r h=>by simp [spec_qrAlign.j1] at h,fun _ _ _ _ _ _ _ _ _ _ _ _ r h=>by simp [spec_qrAlign.l1] at h,fun _ _ _ _ _ _ _ _ _ _ _ _ _ _ r h=>by simp [spec_qrAlign.j3] at h⟩
 | k+1=>by
  obtain⟨ih0,ih1,ih2,ih3⟩:=spec_qrAlign.mono_l k
  refine⟨?_,?_,?_,?_⟩
  ·intro y0 y1 y2 y3 y4 y5 y6
   unfold spec_qrAlign.l0
   repeat' first
   | (with_reducible exact ih0 _ _ _ _ _ _ _)
   | (with_reducible exact ih1 _ _ _ _ _ _ _ _ _ _)
   | (with_reducible exact ih2 _ _ _ _ _ _ _ _ _ _ _ _)
   | (with_reducible exact ih3 _ _ _ _ _ _ _ _ _ _ _ _ _ _)
   | (with_reducible exact LeO.refl _)
   | (with_reducible exact LeO.none _)
   | (with_reducible refine LeO.ite ?_ ?_)
   | (with_reducible refine LeO.bind ?_ (fun _=>?_))
   | exact ih0 _ _ _ _ _ _ _
   | exact ih1 _ _ _ _ _ _ _ _ _ _
   | exact ih2 _ _ _ _ _ _ _ _ _ _ _ _
   | exact ih3 _ _ _ _ _ _ _ _ _ _ _ _ _ _
   | exact LeO.none _
   | refine LeO.ite ?_ ?_
   | refine LeO.bind ?_ (fun _=>?_)
  ·intro y0 y1 y2 y3 y4 y5 y6 y7 y8 y9
   unfold spec_qrAlign.j1
   repeat' first
   | (with_reducible exact ih0 _ _ _ _ _ _ _)
   | (with_reducible exact ih1 _ _ _ _ _ _ _ _ _ _)
   | (with_reducible exact ih2 _ _ _ _ _ _ _ _ _ _ _ _)
   | (with_reducible exact ih3 _ _ _ _ _ _ _ _ _ _ _ _ _ _)
   | (with_reducible exact LeO.refl _)
   | (with_reducible exact LeO.none _)
   | (with_reducible refine LeO.ite ?_ ?_)
   | (with_reducible refine LeO.bind ?_ (fun _=>?_))
   | exact ih0 _ _ _ _ _ _ _
   | exact ih1 _ _ _ _ _ _ _ _ _ _
   | exact ih2 _ _ _ _ _ _ _ _ _ _ _ _
   | exact ih3 _ _ _ _ _ _ _ _ _ _ _ _ _ _
   | exact LeO.none _
   | refine LeO.ite ?_ ?_
   | refine LeO.bind ?_ (fun _=>?_)
  ·intro y0 y1 y2 y3 y4 y5 y6 y7 y8 y9 y10 y11
   unfold spec_qrAlign.l1
   repeat' first
   | (with_reducible exact ih0 _ _ _ _ _ _ _)
   | (with_reducible exact ih1 _ _ _ _ _ _ _ _ _ _)
   | (with_reducible exact ih2 _ _ _ _ _ _ _ _ _ _ _ _)
   | (with_reducible exact ih3 _ _ _ _ _ _ _ _ _ _ _ _ _ _)
   | (with_reducible exact LeO.refl _)
   | (with_reducible exact LeO.none _)
   | (with_reducible refine LeO.ite ?_ ?_)
   | (with_reducible refine LeO.bind ?_ (fun _=>?_))
   | exact ih0 _ _ _ _ _ _ _
   | exact ih1 _ _ _ _ _ _ _ _ _ _
   | exact ih2 _ _ _ _ _ _ _ _ _ _ _ _
   | exact ih3 _ _ _ _ _ _ _ _ _ _ _ _ _ _
   | exact LeO.none _
   | refine LeO.ite ?_ ?_
   | refine LeO.bind ?_ (fun _=>?_)
  ·intro y0 y1 y2 y3 y4 y5 y6 y7 y8 y9 y10 y11 y12 y13
   unfold spec_qrAlign.j3
   repeat' first
   | (with_reducible exact ih0 _ _ _ _ _ _ _)
   | (with_reducible exact ih1 _ _ _ _ _ _ _ _ _ _)
   | (with_reducible exact ih2 _ _ _ _ _ _ _ _ _ _ _ _)
   | (with_reducible exact ih3 _ _ _ _ _ _ _ _ _ _ _ _ _ _)
   | (with_reducible exact LeO.refl _)
   | (with_reducible exact LeO.none _)
   | (with_reducible refine LeO.ite ?_ ?_)
   | (with_reducible refine LeO.bind ?_ (fun _=>?_))
   | exact ih0 _ _ _ _ _ _ _
   | exact ih1 _ _ _ _ _ _ _ _ _ _
   | exact ih2 _ _ _ _ _ _ _ _ _ _ _ _
   | exact ih3 _ _ _ _ _ _ _ _ _ _ _ _ _ _
   | exact LeO.none _
   | refine LeO.ite ?_ ?_
   | refine LeO.bind ?_ (fun _=>?_)
theorem spec_qrAlign.mono:∀ a0 a1 a2 k,LeO (spec_qrAlign.f k a0 a1 a2) (spec_qrAlign.f (k+1) a0 a1 a2):=by
 intro a0 a1 a2 k
 obtain⟨ih0,ih1,ih2,ih3⟩:=spec_qrAlign.mono_l k
 unfold spec_qrAlign.f
 repeat' first
   | (with_reducible exact ih0 _ _ _ _ _ _ _)
   | (with_reducible exact ih1 _ _ _ _ _ _ _ _ _ _)
   | (with_reducible exact ih2 _ _ _ _ _ _ _ _ _ _ _ _)
   | (with_reducible exact ih3 _ _ _ _ _ _ _ _ _ _ _ _ _ _)
   | (with_reducible exact LeO.refl _)
   | (with_reducible exact LeO.none _)
   | (with_reducible refine LeO.ite ?_ ?_)
   | (with_reducible refine LeO.bind ?_ (fun _=>?_))
   | exact ih0 _ _ _ _ _ _ _
   | exact ih1 _ _ _ _ _ _ _ _ _ _
   | exact ih2 _ _ _ _ _ _ _ _ _ _ _ _
   | exact ih3 _ _ _ _ _ _ _ _ _ _ _ _ _ _
   | exact LeO.none _
   | refine LeO.ite ?_ ?_
   | refine LeO.bind ?_ (fun _=>?_)
set_option maxHeartbeats 8000000 in
set_option maxRecDepth 100000 in
theorem spec_qrAlign.calls (k:Nat)(A0:Option Addr)(c0:Nat)(l0:List Int)(a1:Int)(a2:Int)(r:Int)(w:World)(hr0:Kd.C (Kd.int .i64) w A0 l0.length l0)(hc0:l0.length<=c0)(h:spec_qrAlign.f k l0 a1 a2=some r) :
  Calls Tryz.prog 96 #[.slice A0 l0.length c0,.int .i64 a1,.int .i64 a2] w fun e w'=>e=.returned (.int .i64 r)/\Below w.heap.size w w':=by
 have HR0:=Aside0.mk hr0
 have HC0:=Aside0.mk hc0
 clear hr0 hc0
 have HB:=Aside0.mk (Below.refl w.heap.size w)
 have H:(spec_qrAlign.l0 k l0 a1 a2 (wrap64 ((l0.length:Int)-1)) l0 (l0.length:Int) 0)=some r:=h
 clear h
 have H':=Aside0.mk H
 clear H
 go_enter Tryz.func96,Tryz.ntmps96
 go_wp2
 go_loopg [18] k (fun kq v18 w'=>∃ (x18_1:Int),v18=.int .i64 x18_1/\Aside0 (spec_qrAlign.l0 kq l0 a1 a2 (wrap64 ((l0.length:Int)-1)) l0 (l0.length:Int) x18_1=some r)/\Aside0 (kq<=k)/\Aside0 (Below w.heap.size w w'))
 case atStart=>exact⟨(0),(by first | rfl | (simp;done) | (simp [*];done)),H',⟨Nat.le_refl _⟩,⟨by repeat (first | (with_reducible first | exact HB.out | apply below_alloc | apply pw_below_drewN | apply below_drew1) | exact HB.out)⟩⟩
 case round=>
  clear H'
  try clear p2
  obtain⟨x18_1,rfl,HA,HK1,HB⟩:=hrel
  cases gk with
  | zero=>exact absurd HA.out (by simp [spec_qrAlign.l0])
  | succ k1=>
   have H:=HA.out
   clear HA
   simp only [spec_qrAlign.l0] at H
   by_cases c4:x18_1<(l0.length:Int)
   ·rw [if_pos c4] at H
    have c4b0:decide (x18_1<(l0.length:Int))=true:=decide_eq_true c4
    clear c4
    by_cases c5:0<=x18_1
    ·rw [if_pos c5] at H
     have c5b0:decide (0<=x18_1)=true:=decide_eq_true c5
     clear c5
     by_cases c6:x18_1<(l0.length:Int)
     ·rw [if_pos c6] at H
      have c6b0:decide (x18_1<(l0.length:Int))=true:=decide_eq_true c6
      clear c6
      have HC7:=Aside0.mk H
      clear H
      have p301:0<=(x18_1:Int):=of_decide_eq_true (by first | (with_reducible assumption) | assumption)
      have q301:x18_1<(l0.length:Int):=of_decide_eq_true (by first | (with_reducible assumption) | assumption)
      obtain⟨ad301,e301,hx301_0⟩:=Kd.at_int HR0.out x18_1 p301 q301
      cases e301
      replace hx301_0:=(HB.out.cell (World.block_lt_of_cell? w _ hx301_0)).trans hx301_0
      replace p301:=eq_true p301
      replace q301:=eq_true q301
      go_upto_region 5 with (fail)
      go_cut [32] (fun v32 wc=>∃ (kq:Nat) (x32_6:Bool),v32=.bool x32_6/\Aside0 (spec_qrAlign.j1 kq l0 a1 a2 (wrap64 ((l0.length:Int)-1)) x18_1 (rd l0 x18_1) l0 (l0.length:Int) x18_1 x32_6=some r)/\Aside0 (kq<=k1)/\Aside0 (Below w.heap.size w wc))
      case first=>
       have H:=HC7.out
       clear HC7
       by_cases c8:a1<(wrap64 ((rd l0 x18_1)-2))
       ·rw [if_pos c8] at H
        have c8b0:decide (a1<(wrap64 ((rd l0 x18_1)-2)))=true:=decide_eq_true c8
        clear c8
        (first | rw [c8b0] | (simp only [i64_w,i32_w];rw [c8b0]) | skip)
        have H':=Aside0.mk H
        clear H
        go_wp2
        go_meet
        case rel=>exact⟨_,(true),(by first | rfl | (simp;done) | (simp [*];done)),H',⟨by have:=HK1.out;first | omega | exact Nat.le_refl _⟩,⟨by repeat (first | (with_reducible first | exact HB.out | apply below_alloc | apply pw_below_drewN | apply below_drew1) | exact HB.out)⟩⟩
       ·rw [if_neg c8] at H
        have c8b0:decide (a1<(wrap64 ((rd l0 x18_1)-2)))=false:=decide_eq_false c8
        clear c8
        (first | rw [c8b0] | (simp only [i64_w,i32_w];rw [c8b0]) | skip)
        have H':=Aside0.mk H
        clear H
        go_wp2
        go_meet
        case rel=>exact⟨_,(decide (a1>(wrap64 ((rd l0 x18_1)+2)))),(by first | rfl | (simp;done) | (simp [*];done)),H',⟨by have:=HK1.out;first | omega | exact Nat.le_refl _⟩,⟨by repeat (first | (with_reducible first | exact HB.out | apply below_alloc | apply pw_below_drewN | apply below_drew1) | exact HB.out)⟩⟩
      case rest=>
       clear HC7
       try clear p2
       try clear p3
       try clear q3
       try clear hx3
       try clear c4
       try clear c4b0
       try clear c5
       try clear c5b0
       try clear c6
       try clear c6b0
       try clear p6
       try clear c8
       try clear c8b0
       try clear hx301_0
       try clear p2
       try clear p301
       try clear q301
       obtain⟨kq,x32_6,rfl,HA,HJ6,HB⟩:=hcut
       cases kq with
       | zero=>exact absurd HA.out (by simp [spec_qrAlign.j1])
       | succ kj6=>
        have H:=HA.out
        clear HA
        simp only [spec_qrAlign.j1] at H
        by_cases c9:x32_6=true
        ·subst c9
         have H1:(spec_qrAlign.l0 kj6 l0 a1 a2 (wrap64 ((l0.length:Int)-1)) l0 (l0.length:Int) (wrap64 (x18_1+1)))=some r:=by rw [if_pos rfl] at H;exact H
         clear H
         have H:=H1
         clear H1
         have H':=Aside0.mk H
         clear H
         go_wp2
         go_roundg kj6
         case measure=>have:=HK1.out;have:=HJ6.out;omega
         case rel=>exact⟨(wrap64 (x18_1+1)),(by first | rfl | (simp;done) | (simp [*];done)),H',⟨by have:=HK1.out;have:=HJ6.out;omega⟩,⟨by repeat (first | (with_reducible first | exact HB.out | apply below_alloc | apply pw_below_drewN | apply below_drew1) | exact HB.out)⟩⟩
        ·replace c9:=Bool.eq_false_iff.mpr c9
         subst c9
         have H1:(spec_qrAlign.l1 kj6 l0 a1 a2 (wrap64 ((l0.length:Int)-1)) x18_1 (rd l0 x18_1) l0 (l0.length:Int) x18_1 l0 (l0.length:Int) 0)=some r:=by rw [if_neg (show ¬ (false=true) by decide)] at H;exact H
         clear H
         have H:=H1
         clear H1
         have H':=Aside0.mk H
         clear H
         go_wp2
         go_loopg [35] kj6 (fun kq v35 w'=>∃ (x35_3:Int),v35=.int .i64 x35_3/\Aside0 (spec_qrAlign.l1 kq l0 a1 a2 (wrap64 ((l0.length:Int)-1)) x18_1 (rd l0 x18_1) l0 (l0.length:Int) x18_1 l0 (l0.length:Int) x35_3=some r)/\Aside0 (kq<=kj6)/\Aside0 (Below w.heap.size w w'))
         case atStart=>exact⟨(0),(by first | rfl | (simp;done) | (simp [*];done)),H',⟨Nat.le_refl _⟩,⟨by repeat (first | (with_reducible first | exact HB.out | apply below_alloc | apply pw_below_drewN | apply below_drew1) | exact HB.out)⟩⟩
         case round=>
          clear H'
          try clear p2
          try clear p3
          try clear q3
          try clear hx3
          try clear c4
          try clear c4b0
          try clear c5
          try clear c5b0
          try clear c6
          try clear c6b0
          try clear p6
          try clear c8
          try clear c8b0
          try clear c9
          try clear hx301_0
          try clear p2
          try clear p3
          try clear p301
          try clear p6
          try clear q3
          try clear q301
          obtain⟨x35_3,rfl,HA,HK3,HB⟩:=hrel
          cases gk with
          | zero=>exact absurd HA.out (by simp [spec_qrAlign.l1])
          | succ k3=>
           have H:=HA.out
           clear HA
           simp only [spec_qrAlign.l1] at H
           by_cases c10:x35_3<(l0.length:Int)
           ·rw [if_pos c10] at H
            have c10b0:decide (x35_3<(l0.length:Int))=true:=decide_eq_true c10
            clear c10
            by_cases c11:0<=x35_3
            ·rw [if_pos c11] at H
             have c11b0:decide (0<=x35_3)=true:=decide_eq_true c11
             clear c11
             by_cases c12:x35_3<(l0.length:Int)
             ·rw [if_pos c12] at H
              have c12b0:decide (x35_3<(l0.length:Int))=true:=decide_eq_true c12
              clear c12
              have HC13:=Aside0.mk H
              clear H
              have p302:0<=(x35_3:Int):=of_decide_eq_true (by first | (with_reducible assumption) | assumption)
              have q302:x35_3<(l0.length:Int):=of_decide_eq_true (by first | (with_reducible assumption) | assumption)
              obtain⟨ad302,e302,hx302_0⟩:=Kd.at_int HR0.out x35_3 p302 q302
              obtain rfl:ad301=ad302:=(by injection e302)
              replace hx302_0:=(HB.out.cell (World.block_lt_of_cell? w _ hx302_0)).trans hx302_0
              replace p302:=eq_true p302
              replace q302:=eq_true q302
              go_upto_region 9 with (fail)
              go_cut [59] (fun v59 wc=>∃ (kq:Nat) (x59_12:Bool),v59=.bool x59_12/\Aside0 (spec_qrAlign.j3 kq l0 a1 a2 (wrap64 ((l0.length:Int)-1)) x18_1 (rd l0 x18_1) (rd l0 x35_3) l0 (l0.length:Int) x18_1 l0 (l0.length:Int) x35_3 x59_12=some r)/\Aside0 (kq<=k3)/\Aside0 (Below w.heap.size w wc))
              case first=>
               have H:=HC13.out
               clear HC13
               by_cases c14:x18_1=0
               ·rw [if_pos c14] at H
                have c14b0:(x18_1==0)=true:=beq_iff_eq.mpr c14
                have c14b1:(x18_1 != 0)=false:=bne_eq_false_iff_eq.mpr c14
                clear c14
                (first | rw [c14b0] | (simp only [i64_w,i32_w];rw [c14b0]) | skip)
                by_cases c15:x35_3=0
                ·rw [if_pos c15] at H
                 have c15b0:(x35_3==0)=true:=beq_iff_eq.mpr c15
                 have c15b1:(x35_3 != 0)=false:=bne_eq_false_iff_eq.mpr c15
                 clear c15
                 have H':=Aside0.mk H
                 clear H
                 go_wp2
                 go_meet
                 case rel=>exact⟨_,(true),(by first | rfl | (simp;done) | (simp [*];done)),H',⟨by have:=HK1.out;have:=HJ6.out;have:=HK3.out;first | omega | exact Nat.le_refl _⟩,⟨by repeat (first | (with_reducible first | exact HB.out | apply below_alloc | apply pw_below_drewN | apply below_drew1) | exact HB.out)⟩⟩
                ·rw [if_neg c15] at H
                 have c15b0:(x35_3==0)=false:=beq_eq_false_iff_ne.mpr c15
                 have c15b1:(x35_3 != 0)=true:=bne_iff_ne.mpr c15
                 by_cases c16:x35_3=(wrap64 ((l0.length:Int)-1))
                 ·rw [if_pos c16] at H
                  have c16b0:(x35_3==(wrap64 ((l0.length:Int)-1)))=true:=beq_iff_eq.mpr c16
                  have c16b1:(x35_3 != (wrap64 ((l0.length:Int)-1)))=false:=bne_eq_false_iff_eq.mpr c16
                  clear c16
                  have H':=Aside0.mk H
                  clear H
                  go_wp2
                  go_meet
                  case rel=>exact⟨_,(true),(by first | rfl | (simp;done) | (simp [*];done)),H',⟨by have:=HK1.out;have:=HJ6.out;have:=HK3.out;first | omega | exact Nat.le_refl _⟩,⟨by repeat (first | (with_reducible first | exact HB.out | apply below_alloc | apply pw_below_drewN | apply below_drew1) | exact HB.out)⟩⟩
                 ·rw [if_neg c16] at H
                  have c16b0:(x35_3==(wrap64 ((l0.length:Int)-1)))=false:=beq_eq_false_iff_ne.mpr c16
                  have c16b1:(x35_3 != (wrap64 ((l0.length:Int)-1)))=true:=bne_iff_ne.mpr c16
                  by_cases c17:x18_1=(wrap64 ((l0.length:Int)-1))
                  ·rw [if_pos c17] at H
                   have c17b0:(x18_1==(wrap64 ((l0.length:Int)-1)))=true:=beq_iff_eq.mpr c17
                   have c17b1:(x18_1 != (wrap64 ((l0.length:Int)-1)))=false:=bne_eq_false_iff_eq.mpr c17
                   clear c17
                   have H':=Aside0.mk H
                   clear H
                   go_wp2
                   go_meet
                   case rel=>exact⟨_,((x35_3==0)),(by first | rfl | (simp;done) | (simp [*];done)),H',⟨by have:=HK1.out;have:=HJ6.out;have:=HK3.out;first | omega | exact Nat.le_refl _⟩,⟨by repeat (first | (with_reducible first | exact HB.out | apply below_alloc | apply pw_below_drewN | apply below_drew1) | exact HB.out)⟩⟩
                  ·rw [if_neg c17] at H
                   have c17b0:(x18_1==(wrap64 ((l0.length:Int)-1)))=false:=beq_eq_false_iff_ne.mpr c17
                   have c17b1:(x18_1 != (wrap64 ((l0.length:Int)-1)))=true:=bne_iff_ne.mpr c17
                   have H':=Aside0.mk H
                   clear H
                   go_wp2
                   go_meet
                   case rel=>exact⟨_,(false),(by first | rfl | (simp;done) | (simp [*];done)),H',⟨by have:=HK1.out;have:=HJ6.out;have:=HK3.out;first | omega | exact Nat.le_refl _⟩,⟨by repeat (first | (with_reducible first | exact HB.out | apply below_alloc | apply pw_below_drewN | apply below_drew1) | exact HB.out)⟩⟩
               ·rw [if_neg c14] at H
                have c14b0:(x18_1==0)=false:=beq_eq_false_iff_ne.mpr c14
                have c14b1:(x18_1 != 0)=true:=bne_iff_ne.mpr c14
                (first | rw [c14b0] | (simp only [i64_w,i32_w];rw [c14b0]) | skip)
                by_cases c18:x18_1=(wrap64 ((l0.length:Int)-1))
                ·rw [if_pos c18] at H
                 have c18b0:(x18_1==(wrap64 ((l0.length:Int)-1)))=true:=beq_iff_eq.mpr c18
                 have c18b1:(x18_1 != (wrap64 ((l0.length:Int)-1)))=false:=bne_eq_false_iff_eq.mpr c18
                 clear c18
                 have H':=Aside0.mk H
                 clear H
                 go_wp2
                 go_meet
                 case rel=>exact⟨_,((x35_3==0)),(by first | rfl | (simp;done) | (simp [*];done)),H',⟨by have:=HK1.out;have:=HJ6.out;have:=HK3.out;first | omega | exact Nat.le_refl _⟩,⟨by repeat (first | (with_reducible first | exact HB.out | apply below_alloc | apply pw_below_drewN | apply below_drew1) | exact HB.out)⟩⟩
                ·rw [if_neg c18] at H
                 have c18b0:(x18_1==(wrap64 ((l0.length:Int)-1)))=false:=beq_eq_false_iff_ne.mpr c18
                 have c18b1:(x18_1 != (wrap64 ((l0.length:Int)-1)))=true:=bne_iff_ne.mpr c18
                 have H':=Aside0.mk H
                 clear H
                 go_wp2
                 go_meet
                 case rel=>exact⟨_,(false),(by first | rfl | (simp;done) | (simp [*];done)),H',⟨by have:=HK1.out;have:=HJ6.out;have:=HK3.out;first | omega | exact Nat.le_refl _⟩,⟨by repeat (first | (with_reducible first | exact HB.out | apply below_alloc | apply pw_below_drewN | apply below_drew1) | exact HB.out)⟩⟩
              case rest=>
               clear HC13
               try clear c1
               try clear p2
               try clear p3
               try clear q3
               try clear hx3
               try clear c4
               try clear c4b0
               try clear c5
               try clear c5b0
               try clear c6
               try clear c6b0
               try clear p6
               try clear c8
               try clear c8b0
               try clear c9
               try clear c10
               try clear c10b0
               try clear c11
               try clear c11b0
               try clear c12
               try clear c12b0
               try clear c14
               try clear c14b0
               try clear c14b1
               try clear c15
               try clear c15b0
               try clear c15b1
               try clear c16
               try clear c16b0
               try clear c16b1
               try clear c17
               try clear c17b0
               try clear c17b1
               try clear c18
               try clear c18b0
               try clear c18b1
               try clear hx301_0
               try clear hx302_0
               try clear p2
               try clear p3
               try clear p301
               try clear p302
               try clear p6
               try clear q3
               try clear q301
               try clear q302
               obtain⟨kq,x59_12,rfl,HA,HJ12,HB⟩:=hcut
               cases kq with
               | zero=>exact absurd HA.out (by simp [spec_qrAlign.j3])
               | succ kj12=>
                have H:=HA.out
                clear HA
                simp only [spec_qrAlign.j3] at H
                by_cases c19:x59_12=true
                ·subst c19
                 have H1:(spec_qrAlign.l1 kj12 l0 a1 a2 (wrap64 ((l0.length:Int)-1)) x18_1 (rd l0 x18_1) l0 (l0.length:Int) x18_1 l0 (l0.length:Int) (wrap64 (x35_3+1)))=some r:=by rw [if_pos rfl] at H;exact H
                 clear H
                 have H:=H1
                 clear H1
                 have H':=Aside0.mk H
                 clear H
                 go_wp2
                 go_roundg kj12
                 case measure=>have:=HK1.out;have:=HJ6.out;have:=HK3.out;have:=HJ12.out;omega
                 case rel=>exact⟨(wrap64 (x35_3+1)),(by first | rfl | (simp;done) | (simp [*];done)),H',⟨by have:=HK1.out;have:=HJ6.out;have:=HK3.out;have:=HJ12.out;omega⟩,⟨by repeat (first | (with_reducible first | exact HB.out | apply below_alloc | apply pw_below_drewN | apply below_drew1) | exact HB.out)⟩⟩
                ·replace c19:=Bool.eq_false_iff.mpr c19
                 subst c19
                 have H1:((spec_qrFar.f a1 a2 (rd l0 x18_1) (rd l0 x35_3)).bind fun t303=>(if t303<=2 then (some t303) else (spec_qrAlign.l1 kj12 l0 a1 a2 (wrap64 ((l0.length:Int)-1)) x18_1 (rd l0 x18_1) l0 (l0.length:Int) x18_1 l0 (l0.length:Int) (wrap64 (x35_3+1)))))=some r:=by rw [if_neg (show ¬ (false=true) by decide)] at H;exact H
                 clear H
                 have H:=H1
                 clear H1
                 replace H:=Option.bind_eq_some_iff.mp H
                 obtain⟨t303,A200,H⟩:=H
                 replace H:(if t303<=2 then (some t303) else (spec_qrAlign.l1 kj12 l0 a1 a2 (wrap64 ((l0.length:Int)-1)) x18_1 (rd l0 x18_1) l0 (l0.length:Int) x18_1 l0 (l0.length:Int) (wrap64 (x35_3+1))))=some r:=H
                 have A20:=Aside0.mk A200
                 clear A200
                 by_cases c21:t303<=2
                 ·rw [if_pos c21] at H
                  have c21b0:decide (t303<=2)=true:=decide_eq_true c21
                  clear c21
                  obtain rfl:=Option.some.inj H
                  go_wp2_with (first | ((with_reducible refine gate_callee (f:=98) rfl ?_);refine goesL_ (some 64) rfl rfl Tryz.func98 (by kernel_rfl) rfl #[.int .i64 a1,.int .i64 a2,.int .i64 (rd l0 x18_1),.int .i64 (rd l0 x35_3)] rfl (by (try simp only [List.map_toArray,List.map_cons,List.map_nil]);first | done | rfl | (simp only [List.length_drop,List.length_take];rfl)) ?_;(with_reducible refine (spec_qrFar.calls a1 a2 (rd l0 x18_1) (rd l0 x35_3) t303 _ A20.out).mono ?_);rintro e w22 ⟨rfl,hb⟩;refine⟨_,rfl,?_⟩;have n0_:=Aside0.mk (below_step (by repeat (first | (with_reducible first | exact HB.out | apply below_alloc | apply pw_below_drewN | apply below_drew1) | exact HB.out)) hb);clear HB;have HB:=n0_;clear n0_;(try clear hb);(try clear hb2);(try clear hk);(try clear hi)))
                  go_ret
                  exact⟨by first | rfl | (simp [errW_none,errW_some]<;>rfl) | (simp [*,errW_none,errW_some]<;>rfl),by repeat (first | (with_reducible first | exact HB.out | apply below_alloc | apply pw_below_drewN | apply below_drew1) | exact HB.out)⟩
                 ·rw [if_neg c21] at H
                  have c21b0:decide (t303<=2)=false:=decide_eq_false c21
                  clear c21
                  have H':=Aside0.mk H
                  clear H
                  go_wp2_with (first | ((with_reducible refine gate_callee (f:=98) rfl ?_);refine goesL_ (some 64) rfl rfl Tryz.func98 (by kernel_rfl) rfl #[.int .i64 a1,.int .i64 a2,.int .i64 (rd l0 x18_1),.int .i64 (rd l0 x35_3)] rfl (by (try simp only [List.map_toArray,List.map_cons,List.map_nil]);first | done | rfl | (simp only [List.length_drop,List.length_take];rfl)) ?_;(with_reducible refine (spec_qrFar.calls a1 a2 (rd l0 x18_1) (rd l0 x35_3) t303 _ A20.out).mono ?_);rintro e w23 ⟨rfl,hb⟩;refine⟨_,rfl,?_⟩;have n0_:=Aside0.mk (below_step (by repeat (first | (with_reducible first | exact HB.out | apply below_alloc | apply pw_below_drewN | apply below_drew1) | exact HB.out)) hb);clear HB;have HB:=n0_;clear n0_;(try clear hb);(try clear hb2);(try clear hk);(try clear hi)))
                  go_roundg kj12
                  case measure=>have:=HK1.out;have:=HJ6.out;have:=HK3.out;have:=HJ12.out;omega
                  case rel=>exact⟨(wrap64 (x35_3+1)),(by first | rfl | (simp;done) | (simp [*];done)),H',⟨by have:=HK1.out;have:=HJ6.out;have:=HK3.out;have:=HJ12.out;omega⟩,⟨by repeat (first | (with_reducible first | exact HB.out | apply below_alloc | apply pw_below_drewN | apply below_drew1) | exact HB.out)⟩⟩
             ·rw [if_neg c12] at H
              exact absurd H (by simp)
            ·rw [if_neg c11] at H
             exact absurd H (by simp)
           ·rw [if_neg c10] at H
            have c10b0:decide (x35_3<(l0.length:Int))=false:=decide_eq_false c10
            clear c10
            have H':=Aside0.mk H
            clear H
            go_wp2
            go_roundg k3
            case measure=>have:=HK1.out;have:=HJ6.out;have:=HK3.out;omega
            case rel=>exact⟨(wrap64 (x18_1+1)),(by first | rfl | (simp;done) | (simp [*];done)),H',⟨by have:=HK1.out;have:=HJ6.out;have:=HK3.out;omega⟩,⟨by repeat (first | (with_reducible first | exact HB.out | apply below_alloc | apply pw_below_drewN | apply below_drew1) | exact HB.out)⟩⟩
     ·rw [if_neg c6] at H
      exact absurd H (by simp)
    ·rw [if_neg c5] at H
     exact absurd H (by simp)
   ·rw [if_neg c4] at H
    have c4b0:decide (x18_1<(l0.length:Int))=false:=decide_eq_false c4
    clear c4
    obtain rfl:=Option.some.inj H
    go_wp2
    go_ret
    exact⟨by first | rfl | (simp [errW_none,errW_some]<;>rfl) | (simp [*,errW_none,errW_some]<;>rfl),by repeat (first | (with_reducible first | exact HB.out | apply below_alloc | apply pw_below_drewN | apply below_drew1) | exact HB.out)⟩
end Go.Proofs.YtgccjgpdjkhpdaaGreat.F
namespace Go.Proofs.YtgccjgpdjkhpdaaGreat.F
open Go.RowKit Go.Proofs.YtgccjgpdjkhpdaaGreatW.PrintWords Go.Proofs.YtgccjgpdjkhpdaaGreatW.PrintLast Go.Proofs.YtgccjgpdjkhpdaaGreatW.PrintMore
attribute [local go_sem] max2_int min2_int max_two min_two max_three min_three max_four min_four
set_option linter.unusedVariables false
set_option linter.unusedSimpArgs false
mutual
def spec_qrGiven.j0:Nat->Int->List Int->Int->Int->Int->Bool->Option (Bool)
 | 0,_,_,_,_,_,_=>none
 | k+1,x0,x1,x2,x3,x9,x12=>if x12=true then (spec_qrGiven.j2 k x0 x1 x2 x3 x9 x12) else (if x2≥(wrap64 (x9-8)) then (spec_qrGiven.j1 k x0 x1 x2 x3 x9 (decide (x3<=8))) else (spec_qrGiven.j1 k x0 x1 x2 x3 x9 false))
def spec_qrGiven.j2:Nat->Int->List Int->Int->Int->Int->Bool->Option (Bool)
 | 0,_,_,_,_,_,_=>none
 | k+1,x0,x1,x2,x3,x9,x12=>if x12=true then (some true) else (if x0≥7 then (if x2<=5 then (if x3≥(wrap64 (x9-11)) then (some true) else (if x3<=5 then (if x2≥(wrap64 (x9-11)) then (some true) else ((spec_qrAlign.f k x1 x2 x3).bind fun t305=>(some (decide (t305≥0))))) else ((spec_qrAlign.f k x1 x2 x3).bind fun t306=>(some (decide (t306≥0)))))) else (if x3<=5 then (if x2≥(wrap64 (x9-11)) then (some true) else ((spec_qrAlign.f k x1 x2 x3).bind fun t307=>(some (decide (t307≥0))))) else ((spec_qrAlign.f k x1 x2 x3).bind fun t308=>(some (decide (t308≥0)))))) else ((spec_qrAlign.f k x1 x2 x3).bind fun t309=>(some (decide (t309≥0)))))
def spec_qrGiven.j1:Nat->Int->List Int->Int->Int->Int->Bool->Option (Bool)
 | 0,_,_,_,_,_,_=>none
 | k+1,x0,x1,x2,x3,x9,x12=>if x12=true then (spec_qrGiven.j2 k x0 x1 x2 x3 x9 x12) else (if x2=6 then (spec_qrGiven.j2 k x0 x1 x2 x3 x9 (x2==6)) else (spec_qrGiven.j2 k x0 x1 x2 x3 x9 (x3==6)))
end
def spec_qrGiven.f (k:Nat)(a0:Int)(l1:List Int)(a2:Int)(a3:Int):Option (Bool):=(spec_QRDimension.f a0).bind fun t304=>(if a2<=8 then (if a3<=8 then (spec_qrGiven.j0 k a0 l1 a2 a3 t304 true) else (spec_qrGiven.j0 k a0 l1 a2 a3 t304 (decide (a3≥(wrap64 (t304-8)))))) else (spec_qrGiven.j0 k a0 l1 a2 a3 t304 false))
theorem spec_qrGiven.mono_l:∀ k,(∀ y0 y1 y2 y3 y4 y5,LeO (spec_qrGiven.j0 k y0 y1 y2 y3 y4 y5) (spec_qrGiven.j0 (k+1) y0 y1 y2 y3 y4 y5))/\(∀ y0 y1 y2 y3 y4 y5,LeO (spec_qrGiven.j2 k y0 y1 y2 y3 y4 y5) (spec_qrGiven.j2 (k+1) y0 y1 y2 y3 y4 y5))/\(∀ y0 y1 y2 y3 y4 y5,LeO (spec_qrGiven.j1 k y0 y1 y2 y3 y4 y5) (spec_qrGiven.j1 (k+1) y0 y1 y2 y3 y4 y5))
 | 0=>⟨fun _ _ _ _ _ _ r h=>by simp [spec_qrGiven.j0] at h,fun _ _ _ _ _ _ r h=>by simp [spec_qrGiven.j2] at h,fun _ _ _ _ _ _ r h=>by simp [spec_qrGiven.j1] at h⟩
 | k+1=>by
  obtain⟨ih0,ih1,ih2⟩:=spec_qrGiven.mono_l k
  refine⟨?_,?_,?_⟩
  ·intro y0 y1 y2 y3 y4 y5
   unfold spec_qrGiven.j0
   repeat' first
   | (with_reducible exact ih0 _ _ _ _ _ _)
   | (with_reducible exact ih1 _ _ _ _ _ _)
   | (with_reducible exact ih2 _ _ _ _ _ _)
   | (with_reducible exact spec_qrAlign.mono _ _ _ _)
   | (with_reducible exact LeO.refl _)
   | (with_reducible exact LeO.none _)
   | (with_reducible refine LeO.ite ?_ ?_)
   | (with_reducible refine LeO.bind ?_ (fun _=>?_))
   | exact ih0 _ _ _ _ _ _
   | exact ih1 _ _ _ _ _ _
   | exact ih2 _ _ _ _ _ _
   | exact spec_qrAlign.mono _ _ _ _
   | exact LeO.none _
   | refine LeO.ite ?_ ?_
   | refine LeO.bind ?_ (fun _=>?_)
  ·intro y0 y1 y2 y3 y4 y5
   unfold spec_qrGiven.j2
   repeat' first
   | (with_reducible exact ih0 _ _ _ _ _ _)
   | (with_reducible exact ih1 _ _ _ _ _ _)
   | (with_reducible exact ih2 _ _ _ _ _ _)
   | (with_reducible exact spec_qrAlign.mono _ _ _ _)
   | (with_reducible exact LeO.refl _)
   | (with_reducible exact LeO.none _)
   | (with_reducible refine LeO.ite ?_ ?_)
   | (with_reducible refine LeO.bind ?_ (fun _=>?_))
   | exact ih0 _ _ _ _ _ _
   | exact ih1 _ _ _ _ _ _
   | exact ih2 _ _ _ _ _ _
   | exact spec_qrAlign.mono _ _ _ _
   | exact LeO.none _
   | refine LeO.ite ?_ ?_
   | refine LeO.bind ?_ (fun _=>?_)
  ·intro y0 y1 y2 y3 y4 y5
   unfold spec_qrGiven.j1
   repeat' first
   | (with_reducible exact ih0 _ _ _ _ _ _)
   | (with_reducible exact ih1 _ _ _ _ _ _)
   | (with_reducible exact ih2 _ _ _ _ _ _)
   | (with_reducible exact spec_qrAlign.mono _ _ _ _)
   | (with_reducible exact LeO.refl _)
   | (with_reducible exact LeO.none _)
   | (with_reducible refine LeO.ite ?_ ?_)
   | (with_reducible refine LeO.bind ?_ (fun _=>?_))
   | exact ih0 _ _ _ _ _ _
   | exact ih1 _ _ _ _ _ _
   | exact ih2 _ _ _ _ _ _
   | exact spec_qrAlign.mono _ _ _ _
   | exact LeO.none _
   | refine LeO.ite ?_ ?_
   | refine LeO.bind ?_ (fun _=>?_)
theorem spec_qrGiven.mono:∀ a0 a1 a2 a3 k,LeO (spec_qrGiven.f k a0 a1 a2 a3) (spec_qrGiven.f (k+1) a0 a1 a2 a3):=by
 intro a0 a1 a2 a3 k
 obtain⟨ih0,ih1,ih2⟩:=spec_qrGiven.mono_l k
 unfold spec_qrGiven.f
 repeat' first
   | (with_reducible exact ih0 _ _ _ _ _ _)
   | (with_reducible exact ih1 _ _ _ _ _ _)
   | (with_reducible exact ih2 _ _ _ _ _ _)
   | (with_reducible exact spec_qrAlign.mono _ _ _ _)
   | (with_reducible exact LeO.refl _)
   | (with_reducible exact LeO.none _)
   | (with_reducible refine LeO.ite ?_ ?_)
   | (with_reducible refine LeO.bind ?_ (fun _=>?_))
   | exact ih0 _ _ _ _ _ _
   | exact ih1 _ _ _ _ _ _
   | exact ih2 _ _ _ _ _ _
   | exact spec_qrAlign.mono _ _ _ _
   | exact LeO.none _
   | refine LeO.ite ?_ ?_
   | refine LeO.bind ?_ (fun _=>?_)
set_option maxHeartbeats 8000000 in
set_option maxRecDepth 100000 in
theorem spec_qrGiven.calls (k:Nat)(a0:Int)(A1:Option Addr)(c1:Nat)(l1:List Int)(a2:Int)(a3:Int)(r:Bool)(w:World)(hr1:Kd.C (Kd.int .i64) w A1 l1.length l1)(hc1:l1.length<=c1)(h:spec_qrGiven.f k a0 l1 a2 a3=some r) :
  Calls Tryz.prog 49 #[.int .i64 a0,.slice A1 l1.length c1,.int .i64 a2,.int .i64 a3] w fun e w'=>e=.returned (.bool r)/\Below w.heap.size w w':=by
 have HR1:=Aside0.mk hr1
 have HC1:=Aside0.mk hc1
 clear hr1 hc1
 have HB:=Aside0.mk (Below.refl w.heap.size w)
 have H:((spec_QRDimension.f a0).bind fun t304=>(if a2<=8 then (if a3<=8 then (spec_qrGiven.j0 k a0 l1 a2 a3 t304 true) else (spec_qrGiven.j0 k a0 l1 a2 a3 t304 (decide (a3≥(wrap64 (t304-8)))))) else (spec_qrGiven.j0 k a0 l1 a2 a3 t304 false)))=some r:=h
 clear h
 replace H:=Option.bind_eq_some_iff.mp H
 obtain⟨t304,A50,H⟩:=H
 replace H:(if a2<=8 then (if a3<=8 then (spec_qrGiven.j0 k a0 l1 a2 a3 t304 true) else (spec_qrGiven.j0 k a0 l1 a2 a3 t304 (decide (a3≥(wrap64 (t304-8)))))) else (spec_qrGiven.j0 k a0 l1 a2 a3 t304 false))=some r:=H
 have A5:=Aside0.mk A50
 clear A50
 have HC6:=Aside0.mk H
 clear H
 go_enter Tryz.func49,Tryz.ntmps49
 go_upto_region 2 with (first | ((with_reducible refine gate_callee (f:=46) rfl ?_);refine goesL_ (some 11) rfl rfl Tryz.func46 (by kernel_rfl) rfl #[.int .i64 a0] rfl (by (try simp only [List.map_toArray,List.map_cons,List.map_nil]);first | done | rfl | (simp only [List.length_drop,List.length_take];rfl)) ?_;(with_reducible refine (spec_QRDimension.calls a0 t304 _ A5.out).mono ?_);rintro e w' ⟨rfl,⟨nd,rfl⟩⟩;refine⟨_,rfl,?_⟩))
 (try simp only [Act.put,List.setIfInBounds_toArray,List.set_cons_zero,List.set_cons_succ])
 go_cut [12] (fun v12 wc=>∃ (kq:Nat) (x12_5:Bool),v12=.bool x12_5/\Aside0 (spec_qrGiven.j0 kq a0 l1 a2 a3 t304 x12_5=some r)/\Aside0 (kq<=k)/\Aside0 (Below w.heap.size w wc))
 case first=>
  have H:=HC6.out
  clear HC6
  by_cases c7:a2<=8
  ·rw [if_pos c7] at H
   have c7b0:decide (a2<=8)=true:=decide_eq_true c7
   clear c7
   (first | rw [c7b0] | (simp only [i64_w,i32_w];rw [c7b0]) | skip)
   by_cases c8:a3<=8
   ·rw [if_pos c8] at H
    have c8b0:decide (a3<=8)=true:=decide_eq_true c8
    clear c8
    have H':=Aside0.mk H
    clear H
    go_wp2
    go_meet
    case rel=>exact⟨_,(true),(by first | rfl | (simp;done) | (simp [*];done)),H',⟨by first | omega | exact Nat.le_refl _⟩,⟨by repeat (first | (with_reducible first | exact HB.out | apply below_alloc | apply pw_below_drewN | apply below_drew1) | exact HB.out)⟩⟩
   ·rw [if_neg c8] at H
    have c8b0:decide (a3<=8)=false:=decide_eq_false c8
    clear c8
    have H':=Aside0.mk H
    clear H
    go_wp2
    go_meet
    case rel=>exact⟨_,(decide (a3≥(wrap64 (t304-8)))),(by first | rfl | (simp;done) | (simp [*];done)),H',⟨by first | omega | exact Nat.le_refl _⟩,⟨by repeat (first | (with_reducible first | exact HB.out | apply below_alloc | apply pw_below_drewN | apply below_drew1) | exact HB.out)⟩⟩
  ·rw [if_neg c7] at H
   have c7b0:decide (a2<=8)=false:=decide_eq_false c7
   clear c7
   (first | rw [c7b0] | (simp only [i64_w,i32_w];rw [c7b0]) | skip)
   have H':=Aside0.mk H
   clear H
   go_wp2
   go_meet
   case rel=>exact⟨_,(false),(by first | rfl | (simp;done) | (simp [*];done)),H',⟨by first | omega | exact Nat.le_refl _⟩,⟨by repeat (first | (with_reducible first | exact HB.out | apply below_alloc | apply pw_below_drewN | apply below_drew1) | exact HB.out)⟩⟩
 case rest=>
  clear HC6
  try clear c1
  try clear p2
  try clear c4
  try clear p6
  try clear c7
  try clear c7b0
  try clear c8
  try clear c8b0
  obtain⟨kq,x12_5,rfl,HA,HJ5,HB⟩:=hcut
  cases kq with
  | zero=>exact absurd HA.out (by simp [spec_qrGiven.j0])
  | succ kj5=>
   have H:=HA.out
   clear HA
   simp only [spec_qrGiven.j0] at H
   have HC9:=Aside0.mk H
   clear H
   go_upto_if 12 with (fail)
   go_cut [12] (fun v12 wc=>∃ (kq:Nat) (x12_8:Bool),v12=.bool x12_8/\Aside0 (spec_qrGiven.j2 kq a0 l1 a2 a3 t304 x12_8=some r)/\Aside0 (kq<=kj5)/\Aside0 (Below w.heap.size w wc))
   case first=>
    have H:=HC9.out
    clear HC9
    by_cases c10:x12_5=true
    ·subst c10
     have H1:(spec_qrGiven.j2 kj5 a0 l1 a2 a3 t304 true)=some r:=by rw [if_pos rfl] at H;exact H
     clear H
     have H:=H1
     clear H1
     have H':=Aside0.mk H
     clear H
     go_wp2
     go_meet
     case rel=>exact⟨_,(true),(by first | rfl | (simp;done) | (simp [*];done)),H',⟨by have:=HJ5.out;first | omega | exact Nat.le_refl _⟩,⟨by repeat (first | (with_reducible first | exact HB.out | apply below_alloc | apply pw_below_drewN | apply below_drew1) | exact HB.out)⟩⟩
    ·replace c10:=Bool.eq_false_iff.mpr c10
     subst c10
     have H1:(if a2≥(wrap64 (t304-8)) then (spec_qrGiven.j1 kj5 a0 l1 a2 a3 t304 (decide (a3<=8))) else (spec_qrGiven.j1 kj5 a0 l1 a2 a3 t304 false))=some r:=by rw [if_neg (show ¬ (false=true) by decide)] at H;exact H
     clear H
     have H:=H1
     clear H1
     have HC11:=Aside0.mk H
     clear H
     go_upto_region 3 with (fail)
     go_cut [12] (fun v12 wc=>∃ (kq:Nat) (x12_10:Bool),v12=.bool x12_10/\Aside0 (spec_qrGiven.j1 kq a0 l1 a2 a3 t304 x12_10=some r)/\Aside0 (kq<=kj5)/\Aside0 (Below w.heap.size w wc))
     case first=>
      have H:=HC11.out
      clear HC11
      by_cases c12:a2≥(wrap64 (t304-8))
      ·rw [if_pos c12] at H
       have c12b0:decide ((wrap64 (t304-8))<=a2)=true:=decide_eq_true c12
       clear c12
       (first | rw [c12b0] | (simp only [i64_w,i32_w];rw [c12b0]) | skip)
       have H':=Aside0.mk H
       clear H
       go_wp2
       go_meet
       case rel=>exact⟨_,(decide (a3<=8)),(by first | rfl | (simp;done) | (simp [*];done)),H',⟨by have:=HJ5.out;first | omega | exact Nat.le_refl _⟩,⟨by repeat (first | (with_reducible first | exact HB.out | apply below_alloc | apply pw_below_drewN | apply below_drew1) | exact HB.out)⟩⟩
      ·rw [if_neg c12] at H
       have c12b0:decide ((wrap64 (t304-8))<=a2)=false:=decide_eq_false c12
       clear c12
       (first | rw [c12b0] | (simp only [i64_w,i32_w];rw [c12b0]) | skip)
       have H':=Aside0.mk H
       clear H
       go_wp2
       go_meet
       case rel=>exact⟨_,(false),(by first | rfl | (simp;done) | (simp [*];done)),H',⟨by have:=HJ5.out;first | omega | exact Nat.le_refl _⟩,⟨by repeat (first | (with_reducible first | exact HB.out | apply below_alloc | apply pw_below_drewN | apply below_drew1) | exact HB.out)⟩⟩
     case rest=>
      clear HC11
      try clear c1
      try clear p2
      try clear c4
      try clear p6
      try clear c7
      try clear c7b0
      try clear c8
      try clear c8b0
      try clear c10
      try clear c12
      try clear c12b0
      try clear p2
      try clear p6
      obtain⟨kq,x12_10,rfl,HA,HJ10,HB⟩:=hcut
      cases kq with
      | zero=>exact absurd HA.out (by simp [spec_qrGiven.j1])
      | succ kj10=>
       have H:=HA.out
       clear HA
       simp only [spec_qrGiven.j1] at H
       by_cases c13:x12_10=true
       ·subst c13
        have H1:(spec_qrGiven.j2 kj10 a0 l1 a2 a3 t304 true)=some r:=by rw [if_pos rfl] at H;exact H
        clear H
        have H:=H1
        clear H1
        have H':=Aside0.mk H
        clear H
        go_wp2
        go_meet
        case rel=>exact⟨_,(true),(by first | rfl | (simp;done) | (simp [*];done)),H',⟨by have:=HJ5.out;have:=HJ10.out;first | omega | exact Nat.le_refl _⟩,⟨by repeat (first | (with_reducible first | exact HB.out | apply below_alloc | apply pw_below_drewN | apply below_drew1) | exact HB.out)⟩⟩
       ·replace c13:=Bool.eq_false_iff.mpr c13
        subst c13
        have H1:(if a2=6 then (spec_qrGiven.j2 kj10 a0 l1 a2 a3 t304 (a2==6)) else (spec_qrGiven.j2 kj10 a0 l1 a2 a3 t304 (a3==6)))=some r:=by rw [if_neg (show ¬ (false=true) by decide)] at H;exact H
        clear H
        have H:=H1
        clear H1
        by_cases c14:a2=6
        ·rw [if_pos c14] at H
         have c14b0:(a2==6)=true:=beq_iff_eq.mpr c14
         have c14b1:(a2 != 6)=false:=bne_eq_false_iff_eq.mpr c14
         clear c14
         have H':=Aside0.mk H
         clear H
         go_wp2
         go_meet
         case rel=>exact⟨_,((a2==6)),(by first | rfl | (simp;done) | (simp [*];done)),H',⟨by have:=HJ5.out;have:=HJ10.out;first | omega | exact Nat.le_refl _⟩,⟨by repeat (first | (with_reducible first | exact HB.out | apply below_alloc | apply pw_below_drewN | apply below_drew1) | exact HB.out)⟩⟩
        ·rw [if_neg c14] at H
         have c14b0:(a2==6)=false:=beq_eq_false_iff_ne.mpr c14
         have c14b1:(a2 != 6)=true:=bne_iff_ne.mpr c14
         have H':=Aside0.mk H
         clear H
         go_wp2
         go_meet
         case rel=>exact⟨_,((a3==6)),(by first | rfl | (simp;done) | (simp [*];done)),H',⟨by have:=HJ5.out;have:=HJ10.out;first | omega | exact Nat.le_refl _⟩,⟨by repeat (first | (with_reducible first | exact HB.out | apply below_alloc | apply pw_below_drewN | apply below_drew1) | exact HB.out)⟩⟩
   case rest=>
    clear HC9
    try clear c1
    try clear p2
    try clear c4
    try clear p6
    try clear c7
    try clear c7b0
    try clear c8
    try clear c8b0
    try clear c10
    try clear c12
    try clear c12b0
    try clear c13
    try clear c14
    try clear c14b0
    try clear c14b1
    try clear p2
    try clear p6
    obtain⟨kq,x12_8,rfl,HA,HJ8,HB⟩:=hcut
    cases kq with
    | zero=>exact absurd HA.out (by simp [spec_qrGiven.j2])
    | succ kj8=>
     have H:=HA.out
     clear HA
     simp only [spec_qrGiven.j2] at H
     by_cases c15:x12_8=true
     ·subst c15
      have H1:(some true)=some r:=by rw [if_pos rfl] at H;exact H
      clear H
      have H:=H1
      clear H1
      obtain rfl:=Option.some.inj H
      go_wp2
      go_ret
      exact⟨by first | rfl | (simp [errW_none,errW_some]<;>rfl) | (simp [*,errW_none,errW_some]<;>rfl),by repeat (first | (with_reducible first | exact HB.out | apply below_alloc | apply pw_below_drewN | apply below_drew1) | exact HB.out)⟩
     ·replace c15:=Bool.eq_false_iff.mpr c15
      subst c15
      have H1:(if a0≥7 then (if a2<=5 then (if a3≥(wrap64 (t304-11)) then (some true) else (if a3<=5 then (if a2≥(wrap64 (t304-11)) then (some true) else ((spec_qrAlign.f kj8 l1 a2 a3).bind fun t305=>(some (decide (t305≥0))))) else ((spec_qrAlign.f kj8 l1 a2 a3).bind fun t306=>(some (decide (t306≥0)))))) else (if a3<=5 then (if a2≥(wrap64 (t304-11)) then (some true) else ((spec_qrAlign.f kj8 l1 a2 a3).bind fun t307=>(some (decide (t307≥0))))) else ((spec_qrAlign.f kj8 l1 a2 a3).bind fun t308=>(some (decide (t308≥0)))))) else ((spec_qrAlign.f kj8 l1 a2 a3).bind fun t309=>(some (decide (t309≥0)))))=some r:=by rw [if_neg (show ¬ (false=true) by decide)] at H;exact H
      clear H
      have H:=H1
      clear H1
      by_cases c16:a0≥7
      ·rw [if_pos c16] at H
       have c16b0:decide (7<=a0)=true:=decide_eq_true c16
       clear c16
       by_cases c17:a2<=5
       ·rw [if_pos c17] at H
        have c17b0:decide (a2<=5)=true:=decide_eq_true c17
        clear c17
        by_cases c18:a3≥(wrap64 (t304-11))
        ·rw [if_pos c18] at H
         have c18b0:decide ((wrap64 (t304-11))<=a3)=true:=decide_eq_true c18
         clear c18
         obtain rfl:=Option.some.inj H
         go_wp2
         go_ret
         exact⟨by first | rfl | (simp [errW_none,errW_some]<;>rfl) | (simp [*,errW_none,errW_some]<;>rfl),by repeat (first | (with_reducible first | exact HB.out | apply below_alloc | apply pw_below_drewN | apply below_drew1) | exact HB.out)⟩
        ·rw [if_neg c18] at H
         have c18b0:decide ((wrap64 (t304-11))<=a3)=false:=decide_eq_false c18
         clear c18
         by_cases c19:a3<=5
         ·rw [if_pos c19] at H
          have c19b0:decide (a3<=5)=true:=decide_eq_true c19
          clear c19
          by_cases c20:a2≥(wrap64 (t304-11))
          ·rw [if_pos c20] at H
           have c20b0:decide ((wrap64 (t304-11))<=a2)=true:=decide_eq_true c20
           clear c20
           obtain rfl:=Option.some.inj H
           go_wp2
           go_ret
           exact⟨by first | rfl | (simp [errW_none,errW_some]<;>rfl) | (simp [*,errW_none,errW_some]<;>rfl),by repeat (first | (with_reducible first | exact HB.out | apply below_alloc | apply pw_below_drewN | apply below_drew1) | exact HB.out)⟩
          ·rw [if_neg c20] at H
           have c20b0:decide ((wrap64 (t304-11))<=a2)=false:=decide_eq_false c20
           clear c20
           replace H:=Option.bind_eq_some_iff.mp H
           obtain⟨t305,A210,H⟩:=H
           replace H:(some (decide (t305≥0)))=some r:=H
           have A21:=Aside0.mk A210
           clear A210
           obtain rfl:=Option.some.inj H
           go_wp2_with (first | ((with_reducible refine gate_callee (f:=96) rfl ?_);refine goesL_ (some 63) rfl rfl Tryz.func96 (by kernel_rfl) rfl #[.slice A1 l1.length c1,.int .i64 a2,.int .i64 a3] rfl (by (try simp only [List.map_toArray,List.map_cons,List.map_nil]);first | done | rfl | (simp only [List.length_drop,List.length_take];rfl)) ?_;(with_reducible refine (spec_qrAlign.calls kj8 _ _ l1 a2 a3 t305 _ ?side1 ?side2 A21.out).mono ?_);(case side1=>repeat (first | exact (Kd.C_below HR1.out HB.out) | (with_reducible refine Kd.C_alloc ?_ _) | (with_reducible refine Kd.C_drewN ?_ _) | (with_reducible refine Kd.C_drew ?_)));(case side2=>exact HC1.out);rintro e w22 ⟨rfl,hb⟩;refine⟨_,rfl,?_⟩;have n0_:=Aside0.mk (below_step (by repeat (first | (with_reducible first | exact HB.out | apply below_alloc | apply pw_below_drewN | apply below_drew1) | exact HB.out)) hb);clear HB;have HB:=n0_;clear n0_;(try clear hb);(try clear hb2);(try clear hk);(try clear hi)))
           go_ret
           exact⟨by first | rfl | (simp [errW_none,errW_some]<;>rfl) | (simp [*,errW_none,errW_some]<;>rfl),by repeat (first | (with_reducible first | exact HB.out | apply below_alloc | apply pw_below_drewN | apply below_drew1) | exact HB.out)⟩
         ·rw [if_neg c19] at H
          have c19b0:decide (a3<=5)=false:=decide_eq_false c19
          clear c19
          replace H:=Option.bind_eq_some_iff.mp H
          obtain⟨t306,A230,H⟩:=H
          replace H:(some (decide (t306≥0)))=some r:=H
          have A23:=Aside0.mk A230
          clear A230
          obtain rfl:=Option.some.inj H
          go_wp2_with (first | ((with_reducible refine gate_callee (f:=96) rfl ?_);refine goesL_ (some 63) rfl rfl Tryz.func96 (by kernel_rfl) rfl #[.slice A1 l1.length c1,.int .i64 a2,.int .i64 a3] rfl (by (try simp only [List.map_toArray,List.map_cons,List.map_nil]);first | done | rfl | (simp only [List.length_drop,List.length_take];rfl)) ?_;(with_reducible refine (spec_qrAlign.calls kj8 _ _ l1 a2 a3 t306 _ ?side1 ?side2 A23.out).mono ?_);(case side1=>repeat (first | exact (Kd.C_below HR1.out HB.out) | (with_reducible refine Kd.C_alloc ?_ _) | (with_reducible refine Kd.C_drewN ?_ _) | (with_reducible refine Kd.C_drew ?_)));(case side2=>exact HC1.out);rintro e w24 ⟨rfl,hb⟩;refine⟨_,rfl,?_⟩;have n0_:=Aside0.mk (below_step (by repeat (first | (with_reducible first | exact HB.out | apply below_alloc | apply pw_below_drewN | apply below_drew1) | exact HB.out)) hb);clear HB;have HB:=n0_;clear n0_;(try clear hb);(try clear hb2);(try clear hk);(try clear hi)))
          go_ret
          exact⟨by first | rfl | (simp [errW_none,errW_some]<;>rfl) | (simp [*,errW_none,errW_some]<;>rfl),by repeat (first | (with_reducible first | exact HB.out | apply below_alloc | apply pw_below_drewN | apply below_drew1) | exact HB.out)⟩
       ·rw [if_neg c17] at H
        have c17b0:decide (a2<=5)=false:=decide_eq_false c17
        clear c17
        by_cases c25:a3<=5
        ·rw [if_pos c25] at H
         have c25b0:decide (a3<=5)=true:=decide_eq_true c25
         clear c25
         by_cases c26:a2≥(wrap64 (t304-11))
         ·rw [if_pos c26] at H
          have c26b0:decide ((wrap64 (t304-11))<=a2)=true:=decide_eq_true c26
          clear c26
          obtain rfl:=Option.some.inj H
          go_wp2
          go_ret
          exact⟨by first | rfl | (simp [errW_none,errW_some]<;>rfl) | (simp [*,errW_none,errW_some]<;>rfl),by repeat (first | (with_reducible first | exact HB.out | apply below_alloc | apply pw_below_drewN | apply below_drew1) | exact HB.out)⟩
         ·rw [if_neg c26] at H
          have c26b0:decide ((wrap64 (t304-11))<=a2)=false:=decide_eq_false c26
          clear c26
          replace H:=Option.bind_eq_some_iff.mp H
          obtain⟨t307,A270,H⟩:=H
          replace H:(some (decide (t307≥0)))=some r:=H
          have A27:=Aside0.mk A270
          clear A270
          obtain rfl:=Option.some.inj H
          go_wp2_with (first | ((with_reducible refine gate_callee (f:=96) rfl ?_);refine goesL_ (some 63) rfl rfl Tryz.func96 (by kernel_rfl) rfl #[.slice A1 l1.length c1,.int .i64 a2,.int .i64 a3] rfl (by (try simp only [List.map_toArray,List.map_cons,List.map_nil]);first | done | rfl | (simp only [List.length_drop,List.length_take];rfl)) ?_;(with_reducible refine (spec_qrAlign.calls kj8 _ _ l1 a2 a3 t307 _ ?side1 ?side2 A27.out).mono ?_);(case side1=>repeat (first | exact (Kd.C_below HR1.out HB.out) | (with_reducible refine Kd.C_alloc ?_ _) | (with_reducible refine Kd.C_drewN ?_ _) | (with_reducible refine Kd.C_drew ?_)));(case side2=>exact HC1.out);rintro e w28 ⟨rfl,hb⟩;refine⟨_,rfl,?_⟩;have n0_:=Aside0.mk (below_step (by repeat (first | (with_reducible first | exact HB.out | apply below_alloc | apply pw_below_drewN | apply below_drew1) | exact HB.out)) hb);clear HB;have HB:=n0_;clear n0_;(try clear hb);(try clear hb2);(try clear hk);(try clear hi)))
          go_ret
          exact⟨by first | rfl | (simp [errW_none,errW_some]<;>rfl) | (simp [*,errW_none,errW_some]<;>rfl),by repeat (first | (with_reducible first | exact HB.out | apply below_alloc | apply pw_below_drewN | apply below_drew1) | exact HB.out)⟩
        ·rw [if_neg c25] at H
         have c25b0:decide (a3<=5)=false:=decide_eq_false c25
         clear c25
         replace H:=Option.bind_eq_some_iff.mp H
         obtain⟨t308,A290,H⟩:=H
         replace H:(some (decide (t308≥0)))=some r:=H
         have A29:=Aside0.mk A290
         clear A290
         obtain rfl:=Option.some.inj H
         go_wp2_with (first | ((with_reducible refine gate_callee (f:=96) rfl ?_);refine goesL_ (some 63) rfl rfl Tryz.func96 (by kernel_rfl) rfl #[.slice A1 l1.length c1,.int .i64 a2,.int .i64 a3] rfl (by (try simp only [List.map_toArray,List.map_cons,List.map_nil]);first | done | rfl | (simp only [List.length_drop,List.length_take];rfl)) ?_;(with_reducible refine (spec_qrAlign.calls kj8 _ _ l1 a2 a3 t308 _ ?side1 ?side2 A29.out).mono ?_);(case side1=>repeat (first | exact (Kd.C_below HR1.out HB.out) | (with_reducible refine Kd.C_alloc ?_ _) | (with_reducible refine Kd.C_drewN ?_ _) | (with_reducible refine Kd.C_drew ?_)));(case side2=>exact HC1.out);rintro e w30 ⟨rfl,hb⟩;refine⟨_,rfl,?_⟩;have n0_:=Aside0.mk (below_step (by repeat (first | (with_reducible first | exact HB.out | apply below_alloc | apply pw_below_drewN | apply below_drew1) | exact HB.out)) hb);clear HB;have HB:=n0_;clear n0_;(try clear hb);(try clear hb2);(try clear hk);(try clear hi)))
         go_ret
         exact⟨by first | rfl | (simp [errW_none,errW_some]<;>rfl) | (simp [*,errW_none,errW_some]<;>rfl),by repeat (first | (with_reducible first | exact HB.out | apply below_alloc | apply pw_below_drewN | apply below_drew1) | exact HB.out)⟩
      ·rw [if_neg c16] at H
       have c16b0:decide (7<=a0)=false:=decide_eq_false c16
       clear c16
       replace H:=Option.bind_eq_some_iff.mp H
       obtain⟨t309,A310,H⟩:=H
       replace H:(some (decide (t309≥0)))=some r:=H
       have A31:=Aside0.mk A310
       clear A310
       obtain rfl:=Option.some.inj H
       go_wp2_with (first | ((with_reducible refine gate_callee (f:=96) rfl ?_);refine goesL_ (some 63) rfl rfl Tryz.func96 (by kernel_rfl) rfl #[.slice A1 l1.length c1,.int .i64 a2,.int .i64 a3] rfl (by (try simp only [List.map_toArray,List.map_cons,List.map_nil]);first | done | rfl | (simp only [List.length_drop,List.length_take];rfl)) ?_;(with_reducible refine (spec_qrAlign.calls kj8 _ _ l1 a2 a3 t309 _ ?side1 ?side2 A31.out).mono ?_);(case side1=>repeat (first | exact (Kd.C_below HR1.out HB.out) | (with_reducible refine Kd.C_alloc ?_ _) | (with_reducible refine Kd.C_drewN ?_ _) | (with_reducible refine Kd.C_drew ?_)));(case side2=>exact HC1.out);rintro e w32 ⟨rfl,hb⟩;refine⟨_,rfl,?_⟩;have n0_:=Aside0.mk (below_step (by repeat (first | (with_reducible first | exact HB.out | apply below_alloc | apply pw_below_drewN | apply below_drew1) | exact HB.out)) hb);clear HB;have HB:=n0_;clear n0_;(try clear hb);(try clear hb2);(try clear hk);(try clear hi)))
       go_ret
       exact⟨by first | rfl | (simp [errW_none,errW_some]<;>rfl) | (simp [*,errW_none,errW_some]<;>rfl),by repeat (first | (with_reducible first | exact HB.out | apply below_alloc | apply pw_below_drewN | apply below_drew1) | exact HB.out)⟩
end Go.Proofs.YtgccjgpdjkhpdaaGreat.F
namespace Go.Proofs.YtgccjgpdjkhpdaaGreat.F
open Go.RowKit Go.Proofs.YtgccjgpdjkhpdaaGreatW.PrintWords Go.Proofs.YtgccjgpdjkhpdaaGreatW.PrintLast Go.Proofs.YtgccjgpdjkhpdaaGreatW.PrintMore
attribute [local go_sem] max2_int min2_int max_two min_two max_three min_three max_four min_four
set_option linter.unusedVariables false
set_option linter.unusedSimpArgs false
mutual
def spec_QRGiven.l0:Nat->Int->Int->List Int->List (List Bool)->Int->Int->Option ((List (List Bool)))
 | 0,_,_,_,_,_,_=>none
 | k+1,x0,x3,x4,x5,x15,x16=>if x16<x15 then (if 0<=x3 then (if (x3:Int).toNat<=281474976710656 then (if 0<=x16 then (if x16<(x5.length:Int) then ((some (x5.set (x16:Int).toNat (List.replicate (x3:Int).toNat false):List (List Bool))).bind fun y388=>(spec_QRGiven.l1 k x0 x3 x4 y388 x16 x15 x16 ((rd_L1 y388 x16).length:Int) 0)) else (none)) else (none)) else (none)) else (none)) else (some x5)
def spec_QRGiven.l1:Nat->Int->Int->List Int->List (List Bool)->Int->Int->Int->Int->Int->Option ((List (List Bool)))
 | 0,_,_,_,_,_,_,_,_,_=>none
 | k+1,x0,x3,x4,x5,x6,x15,x16,x28,x29=>if x29<x28 then (if 0<=x6 then (if x6<(x5.length:Int) then ((spec_qrGiven.f k x0 x4 x6 x29).bind fun t391=>(if 0<=x29 then (if x29<((rd_L1 x5 x6).length:Int) then (spec_QRGiven.l1 k x0 x3 x4 (x5.set (x6:Int).toNat ((rd_L1 x5 x6).set (x29:Int).toNat t391)) x6 x15 x16 x28 (wrap64 (x29+1))) else (none)) else (none))) else (none)) else (none)) else (spec_QRGiven.l0 k x0 x3 x4 x5 x15 (wrap64 (x16+1)))
end
def spec_QRGiven.f (k:Nat)(a0:Int):Option ((List (List Bool))):=(spec_QRDimension.f a0).bind fun t378=>((spec_QRCenters.f k a0).bind fun t379=>(if 0<=t378 then (if (t378:Int).toNat<=11728124029610 then ((some (List.replicate (t378:Int).toNat []:List (List Bool))).bind fun y382=>(spec_QRGiven.l0 k a0 t378 t379 y382 (y382.length:Int) 0)) else (none)) else (none)))
theorem spec_QRGiven.mono_l:∀ k,(∀ y0 y1 y2 y3 y4 y5,LeO (spec_QRGiven.l0 k y0 y1 y2 y3 y4 y5) (spec_QRGiven.l0 (k+1) y0 y1 y2 y3 y4 y5))/\(∀ y0 y1 y2 y3 y4 y5 y6 y7 y8,LeO (spec_QRGiven.l1 k y0 y1 y2 y3 y4 y5 y6 y7 y8) (spec_QRGiven.l1 (k+1) y0 y1 y2 y3 y4 y5 y6 y7 y8))
 | 0=>⟨fun _ _ _ _ _ _ r h=>by simp [spec_QRGiven.l0] at h,fun _ _ _ _ _ _ _ _ _ r h=>by simp [spec_QRGiven.l1] at h⟩
 | k+1=>by
  obtain⟨ih0,ih1⟩:=spec_QRGiven.mono_l k
  refine⟨?_,?_⟩
  ·intro y0 y1 y2 y3 y4 y5
   unfold spec_QRGiven.l0
   repeat' first
   | (with_reducible exact ih0 _ _ _ _ _ _)
   | (with_reducible exact ih1 _ _ _ _ _ _ _ _ _)
   | (with_reducible exact spec_QRCenters.mono _ _)
   | (with_reducible exact spec_qrGiven.mono _ _ _ _ _)
   | (with_reducible exact LeO.refl _)
   | (with_reducible exact LeO.none _)
   | (with_reducible refine LeO.ite ?_ ?_)
   | (with_reducible refine LeO.bind ?_ (fun _=>?_))
   | exact ih0 _ _ _ _ _ _
   | exact ih1 _ _ _ _ _ _ _ _ _
   | exact spec_QRCenters.mono _ _
   | exact spec_qrGiven.mono _ _ _ _ _
   | exact LeO.none _
   | refine LeO.ite ?_ ?_
   | refine LeO.bind ?_ (fun _=>?_)
  ·intro y0 y1 y2 y3 y4 y5 y6 y7 y8
   unfold spec_QRGiven.l1
   repeat' first
   | (with_reducible exact ih0 _ _ _ _ _ _)
   | (with_reducible exact ih1 _ _ _ _ _ _ _ _ _)
   | (with_reducible exact spec_QRCenters.mono _ _)
   | (with_reducible exact spec_qrGiven.mono _ _ _ _ _)
   | (with_reducible exact LeO.refl _)
   | (with_reducible exact LeO.none _)
   | (with_reducible refine LeO.ite ?_ ?_)
   | (with_reducible refine LeO.bind ?_ (fun _=>?_))
   | exact ih0 _ _ _ _ _ _
   | exact ih1 _ _ _ _ _ _ _ _ _
   | exact spec_QRCenters.mono _ _
   | exact spec_qrGiven.mono _ _ _ _ _
   | exact LeO.none _
   | refine LeO.ite ?_ ?_
   | refine LeO.bind ?_ (fun _=>?_)
theorem spec_QRGiven.mono:∀ a0 k,LeO (spec_QRGiven.f k a0) (spec_QRGiven.f (k+1) a0):=by
 intro a0 k
 obtain⟨ih0,ih1⟩:=spec_QRGiven.mono_l k
 unfold spec_QRGiven.f
 repeat' first
   | (with_reducible exact ih0 _ _ _ _ _ _)
   | (with_reducible exact ih1 _ _ _ _ _ _ _ _ _)
   | (with_reducible exact spec_QRCenters.mono _ _)
   | (with_reducible exact spec_qrGiven.mono _ _ _ _ _)
   | (with_reducible exact LeO.refl _)
   | (with_reducible exact LeO.none _)
   | (with_reducible refine LeO.ite ?_ ?_)
   | (with_reducible refine LeO.bind ?_ (fun _=>?_))
   | exact ih0 _ _ _ _ _ _
   | exact ih1 _ _ _ _ _ _ _ _ _
   | exact spec_QRCenters.mono _ _
   | exact spec_qrGiven.mono _ _ _ _ _
   | exact LeO.none _
   | refine LeO.ite ?_ ?_
   | refine LeO.bind ?_ (fun _=>?_)
def spec_QRGiven.T11:Bool×List (List Nat×List Nat):=(true,[([],[]),([],[]),([0,1],[0,1]),([2],[2]),([],[]),([],[]),([],[]),([],[]),([],[]),([5,6,7,8],[5,6,7,8]),([3,4,0,1,2,3,4,5,6,7,8,9],[3,4]),([10,9,9,0,1,2,3,4,5,6,7,8,9],[9,10])])
def spec_QRGiven.B11:List Nat:=[0,0,3,7,0,0,0,0,0,480,1023,2047]
theorem spec_QRGiven.tab11:rtab .any (opsOf Tryz.f121 11)=spec_QRGiven.T11:=by kernel_rfl
theorem spec_QRGiven.bits11:waitsOk spec_QRGiven.T11.2 spec_QRGiven.B11=true:=by kernel_rfl
set_option maxHeartbeats 8000000 in
set_option maxRecDepth 100000 in
theorem spec_QRGiven.calls (k:Nat)(a0:Int)(r:List (List Bool))(w:World)(h:spec_QRGiven.f k a0=some r) :
  Calls Tryz.prog 121 #[.int .i64 a0] w fun e w'=>∃ v0_:Value,e=.returned (v0_)/\Kd.S (Kd.slice 4 Kd.bool) 45 w' w.heap.size (fun _=>True) v0_ r/\Below w.heap.size w w':=by
 have HB:=Aside0.mk (Below.refl w.heap.size w)
 have H:((spec_QRDimension.f a0).bind fun t378=>((spec_QRCenters.f k a0).bind fun t379=>(if 0<=t378 then (if (t378:Int).toNat<=11728124029610 then ((some (List.replicate (t378:Int).toNat []:List (List Bool))).bind fun y382=>(spec_QRGiven.l0 k a0 t378 t379 y382 (y382.length:Int) 0)) else (none)) else (none))))=some r:=h
 clear h
 replace H:=Option.bind_eq_some_iff.mp H
 obtain⟨t378,A20,H⟩:=H
 replace H:((spec_QRCenters.f k a0).bind fun t379=>(if 0<=t378 then (if (t378:Int).toNat<=11728124029610 then ((some (List.replicate (t378:Int).toNat []:List (List Bool))).bind fun y382=>(spec_QRGiven.l0 k a0 t378 t379 y382 (y382.length:Int) 0)) else (none)) else (none)))=some r:=H
 have A2:=Aside0.mk A20
 clear A20
 replace H:=Option.bind_eq_some_iff.mp H
 obtain⟨t379,A30,H⟩:=H
 replace H:(if 0<=t378 then (if (t378:Int).toNat<=11728124029610 then ((some (List.replicate (t378:Int).toNat []:List (List Bool))).bind fun y382=>(spec_QRGiven.l0 k a0 t378 t379 y382 (y382.length:Int) 0)) else (none)) else (none))=some r:=H
 have A3:=Aside0.mk A30
 clear A30
 by_cases c4:0<=t378
 ·rw [if_pos c4] at H
  have c4b0:=eq_true c4
  have c4b1:decide (0<=t378)=true:=decide_eq_true c4
  clear c4
  by_cases c5:(t378:Int).toNat<=11728124029610
  ·rw [if_pos c5] at H
   have c5b0:=eq_true c5
   have c5b1:decide ((t378:Int).toNat<=11728124029610)=true:=decide_eq_true c5
   clear c5
   obtain⟨y382,hy382⟩:∃ y_:List (List Bool),y_=(List.replicate (t378:Int).toNat []):=⟨_,rfl⟩
   replace H:(spec_QRGiven.l0 k a0 t378 t379 y382 (y382.length:Int) 0)=some r:=by first | (rw [hy382];with_reducible exact H) | (have H2_:=(Option.bind_some _ _).symm.trans H;rw [hy382];with_reducible exact H2_) | (have H2_:=(Option.bind_some _ _).symm.trans H;with_reducible exact H2_) | with_reducible exact H | (rw [hy382];exact H) | exact H
   have Ny382:=Aside0.mk hy382
   clear hy382
   have H':=Aside0.mk H
   clear H
   go_enter Tryz.func121,Tryz.ntmps121
   go_wp2_with (first | ((with_reducible refine gate_callee (f:=46) rfl ?_);refine goesL_ (some 9) rfl rfl Tryz.func46 (by kernel_rfl) rfl #[.int .i64 a0] rfl (by (try simp only [List.map_toArray,List.map_cons,List.map_nil]);first | done | rfl | (simp only [List.length_drop,List.length_take];rfl)) ?_;(with_reducible refine (spec_QRDimension.calls a0 t378 _ A2.out).mono ?_);rintro e w' ⟨rfl,⟨nd,rfl⟩⟩;refine⟨_,rfl,?_⟩) | ((with_reducible refine gate_callee (f:=48) rfl ?_);refine goesL_ (some 11) rfl rfl Tryz.func48 (by kernel_rfl) rfl #[.int .i64 a0] rfl (by (try simp only [List.map_toArray,List.map_cons,List.map_nil]);first | done | rfl | (simp only [List.length_drop,List.length_take];rfl)) ?_;(with_reducible refine (spec_QRCenters.calls k a0 t379 _ A3.out).mono ?_);rintro e w6 ⟨v380,rfl,ho0,hb⟩;refine⟨_,rfl,?_⟩;have n0_:=Aside0.mk (Kd.R_lower ho0 (below_size (by repeat (first | (with_reducible first | exact HB.out | apply below_alloc | apply pw_below_drewN | apply below_drew1) | exact HB.out))));have n1_:=Aside0.mk (below_step (by repeat (first | (with_reducible first | exact HB.out | apply below_alloc | apply pw_below_drewN | apply below_drew1) | exact HB.out)) hb);clear HB;have HO381:=n0_;have HB:=n1_;clear n0_ n1_;(try clear hb);(try clear hb2);(try clear hk);(try clear hi);(try clear ho0)) | ((with_reducible refine gate_dst (N:=13) rfl ?_);refine Kd.S_make (Kd.slice 4 Kd.bool) _ 45 rfl (N:=13) rfl 22 _ _ rfl t378 rfl rfl Tryz.underlying22 (.slice none 0 0) 24 info45 rfl (by decide) (by omega) [] (ok:=fun _=>True) (okp:=fun _=>True) ⟨_,rfl,Kd.R_nil _ _ _ _ _⟩ (fun _ hk=>hk) trivial (of_decide_eq_true (by first | (with_reducible assumption) | assumption)) (Nat.le_trans (Nat.mul_le_mul_right _ (of_decide_eq_true (by first | (with_reducible assumption) | assumption):t378.toNat<=11728124029610)) (by omega)) (Below.refl _ _) (Nat.le_refl _) ?_;intro v383 w7 ho8 hb hg_ hnew_;clear hg_ hnew_;(first | rw [<- Ny382.out] at ho8 | (simp only [Int.reduceToNat] at ho8;rw [<- Ny382.out] at ho8));have n0_:=Aside0.mk (Kd.R_below (by (with_reducible repeat (first | apply Kd.R_alloc | apply Kd.R_drewN | apply Kd.R_drew));exact HO381.out) hb);have n1_:=Aside0.mk (Kd.S_lower ho8 (below_size (by repeat (first | (with_reducible first | exact HB.out | apply below_alloc | apply pw_below_drewN | apply below_drew1) | exact HB.out))));have n2_:=Aside0.mk (below_step (by repeat (first | (with_reducible first | exact HB.out | apply below_alloc | apply pw_below_drewN | apply below_drew1) | exact HB.out)) hb);clear HO381;clear HB;have HO381:=n0_;have HO384:=n1_;have HB:=n2_;clear n0_ n1_ n2_;clear hb ho8;obtain⟨Ao9,co9,eo9⟩:=Kd.S_slice HO384.out;subst eo9))
   go_loopg [16] k (fun kq v16 w'=>∃ (x5_1:List (List Bool)) (x16_1:Int),v16=.int .i64 x16_1/\Aside0 (spec_QRGiven.l0 kq a0 t378 t379 x5_1 (y382.length:Int) x16_1=some r)/\Aside0 (kq<=k)/\Aside0 (Kd.R (Kd.int .i64) 3 w' w.heap.size (fun _=>True) v380 t379)/\Aside0 (Kd.S (Kd.slice 4 Kd.bool) 45 w' w.heap.size (fun _=>True) (.slice Ao9 y382.length co9) x5_1)/\Aside0 (Below w.heap.size w w'))
   case atStart=>exact⟨(y382),(0),(by first | rfl | (simp;done) | (simp [*];done)),H',⟨Nat.le_refl _⟩,⟨by (with_reducible repeat (first | apply Kd.R_alloc | apply Kd.R_drewN | apply Kd.R_drew));exact HO381.out⟩,⟨by (with_reducible repeat (first | apply Kd.S_alloc | apply Kd.S_drewN | apply Kd.S_drew));exact HO384.out⟩,⟨by repeat (first | (with_reducible first | exact HB.out | apply below_alloc | apply pw_below_drewN | apply below_drew1) | exact HB.out)⟩⟩
   case round=>
    clear H'
    try clear c1
    try clear p2
    try clear c4
    try clear c4b0
    try clear c4b1
    try clear c5
    try clear c5b0
    try clear c5b1
    obtain⟨x5_1,x16_1,rfl,HA,HK1,HO_4,HO_5,HB⟩:=hrel
    have hl5_1:=(Kd.S_reads' HO_5.out).1
    rw [hl5_1] at HO_5
    (try simp only [hl5_1])
    (try simp only [hl5_1] at HO_4)
    cases gk with
    | zero=>exact absurd HA.out (by simp [spec_QRGiven.l0])
    | succ k1=>
     have H:=HA.out
     clear HA
     simp only [spec_QRGiven.l0] at H
     by_cases c10:x16_1<(y382.length:Int)
     ·rw [if_pos c10] at H
      have c10b0:decide (x16_1<(y382.length:Int))=true:=decide_eq_true c10
      clear c10
      by_cases c11:0<=t378
      ·rw [if_pos c11] at H
       have c11b0:=eq_true c11
       have c11b1:decide (0<=t378)=true:=decide_eq_true c11
       clear c11
       by_cases c12:(t378:Int).toNat<=281474976710656
       ·rw [if_pos c12] at H
        have c12b0:=eq_true c12
        have c12b1:decide ((t378:Int).toNat<=281474976710656)=true:=decide_eq_true c12
        clear c12
        obtain⟨y385,hy385⟩:∃ y_:List Bool,y_=(List.replicate (t378:Int).toNat false):=⟨_,rfl⟩
        replace H:(if 0<=x16_1 then (if x16_1<(x5_1.length:Int) then ((some (x5_1.set (x16_1:Int).toNat y385:List (List Bool))).bind fun y388=>(spec_QRGiven.l1 k1 a0 t378 t379 y388 x16_1 (y382.length:Int) x16_1 ((rd_L1 y388 x16_1).length:Int) 0)) else (none)) else (none))=some r:=by first | (rw [hy385];with_reducible exact H) | (have H2_:=(Option.bind_some _ _).symm.trans H;rw [hy385];with_reducible exact H2_) | (have H2_:=(Option.bind_some _ _).symm.trans H;with_reducible exact H2_) | with_reducible exact H | (rw [hy385];exact H) | exact H
        have Ny385:=Aside0.mk hy385
        clear hy385
        by_cases c13:0<=x16_1
        ·rw [if_pos c13] at H
         have c13b0:decide (0<=x16_1)=true:=decide_eq_true c13
         clear c13
         by_cases c14:x16_1<(x5_1.length:Int)
         ·rw [if_pos c14] at H
          have c14b0:decide (x16_1<(x5_1.length:Int))=true:=decide_eq_true c14
          clear c14
          obtain⟨y388,hy388⟩:∃ y_:List (List Bool),y_=(x5_1.set (x16_1:Int).toNat y385):=⟨_,rfl⟩
          replace H:(spec_QRGiven.l1 k1 a0 t378 t379 y388 x16_1 (y382.length:Int) x16_1 ((rd_L1 y388 x16_1).length:Int) 0)=some r:=by first | (rw [hy388];with_reducible exact H) | (have H2_:=(Option.bind_some _ _).symm.trans H;rw [hy388];with_reducible exact H2_) | (have H2_:=(Option.bind_some _ _).symm.trans H;with_reducible exact H2_) | with_reducible exact H | (rw [hy388];exact H) | exact H
          have Ny388:=Aside0.mk hy388
          clear hy388
          have H':=Aside0.mk H
          clear H
          go_wp2_with (first | ((with_reducible refine gate_dst (N:=22) rfl ?_);refine Kd.R_make Kd.bool _ 4 rfl (N:=22) rfl 45 _ _ rfl t378 rfl rfl Tryz.underlying45 (.bool false) 1 info4 rfl (by decide) (by omega) false (ok:=fun _=>True) (okp:=fun _=>True) rfl (fun _ hk=>hk) trivial (of_decide_eq_true (by first | (with_reducible assumption) | assumption)) (Nat.le_trans (Nat.mul_le_mul_right _ (of_decide_eq_true (by first | (with_reducible assumption) | assumption):t378.toNat<=281474976710656)) (by omega)) (Below.refl _ _) (Nat.le_refl _) ?_;intro v386 w16 ho17 hb hg_ hnew_;clear hg_ hnew_;(first | rw [<- Ny385.out] at ho17 | (simp only [Int.reduceToNat] at ho17;rw [<- Ny385.out] at ho17));have n0_:=Aside0.mk (Kd.R_below (by (with_reducible repeat (first | apply Kd.R_alloc | apply Kd.R_drewN | apply Kd.R_drew));exact HO_4.out) hb);have n1_:=Aside0.mk (Kd.S_elder' (by (with_reducible repeat (first | apply Kd.S_alloc | apply Kd.S_drewN | apply Kd.S_drew));exact HO_5.out) (Kd.R_base ho17) hb);have n2_:=Aside0.mk (Kd.R_lower ho17 (below_size (by repeat (first | (with_reducible first | exact HB.out | apply below_alloc | apply pw_below_drewN | apply below_drew1) | exact HB.out))));have n3_:=Aside0.mk (below_step (by repeat (first | (with_reducible first | exact HB.out | apply below_alloc | apply pw_below_drewN | apply below_drew1) | exact HB.out)) hb);clear HO_4;clear HO_5;clear HB;have HO_4:=n0_;have HO_5:=n1_;have HO387:=n2_;have HB:=n3_;clear n0_ n1_ n2_ n3_;clear hb ho17;have p15:0<=(x16_1:Int):=of_decide_eq_true (by first | (with_reducible assumption) | assumption);have q15:(x16_1:Int)<((x5_1.length:Int):Int):=of_decide_eq_true (by first | (with_reducible assumption) | assumption);obtain⟨go15,co15,eo15,gb15,gl15,cl15,HG15⟩:=Kd.S_form HO_5.out (by omega);(first | cases eo15 | (injection eo15 with ea_ en_ ec_;(first | subst ea_ | (injection ea_ with ea_;subst ea_));subst ec_;clear en_));have GB15:=Aside0.mk gb15;have GG15:=Aside0.mk HG15;clear gb15 gl15 HG15;obtain⟨_,ce15,hcl15,hM15,hcc15,hfr15,_,_⟩:=Kd.S_elem HO_5.out [] (x16_1:Int) p15 q15;obtain⟨ve15_0,rfl,ge15_0⟩:=hM15;have hx15_0:=hcc15 0 _ rfl;have hf15_0:=hfr15 0;(try simp only [show ((Kd.slice 4 Kd.bool)).sz=1 from rfl,Nat.mul_one,Nat.add_zero] at hx15_0);(try simp only [show ((Kd.slice 4 Kd.bool)).sz=1 from rfl,Nat.mul_one,Nat.add_zero] at hf15_0);clear hcl15 hcc15 hfr15;(try clear hM15);replace p15:=eq_true p15;replace q15:=eq_true q15;have n_:=Aside0.mk (Kd.S_mono (ok':=(fun k_=>some k_≠(v386:Value).ownBlock)) HO_5.out (fun k_ hk=>hk.2));clear HO_5;have HO_5:=n_;clear n_;have HX18:=Aside0.mk (show Kd.S (Kd.slice 4 Kd.bool) 45 w16 w.heap.size (fun k_=>((fun _=>True)) k_/\¬ ((fun k_=>some k_=(v386:Value).ownBlock)) k_) (.slice (some ⟨go15,0,none⟩) x5_1.length co9) x5_1 from (by (with_reducible repeat (first | apply Kd.S_alloc | apply Kd.S_drewN | apply Kd.S_drew));exact Kd.S_mono HO_5.out (fun k_ hk=>⟨trivial,fun e_=>hk e_⟩)));obtain⟨oki18,ce18,hcl18,hM18,hcc18,hfr18,hoki18,hH18⟩:=Kd.S_elem HX18.out [] (x16_1:Int) (of_decide_eq_true (by first | (with_reducible assumption) | assumption)) (by have h_:(x16_1:Int)<((x5_1.length:Int):Int):=of_decide_eq_true (by first | (with_reducible assumption) | assumption);first | exact h_ | (have e_:=(Kd.S_reads' HO_5.out).1;omega) | simpa using h_);obtain⟨ve18_0,rfl,ge18_0⟩:=hM18;have HP18:=Kd.S_seg hH18 (of_decide_eq_true (by first | (with_reducible assumption) | assumption)) (by have h_:(x16_1:Int)<((x5_1.length:Int):Int):=of_decide_eq_true (by first | (with_reducible assumption) | assumption);first | exact h_ | (have e_:=(Kd.S_reads' HO_5.out).1;omega) | simpa using h_) (seg:=[v386]) (j:=0) (show 1<=1 from by decide) (x':=y385) (Kd.M_row (Kd.R_mono (Kd.R_tight rfl (Kd.R_mono (ok':=fun k_=>((fun _=>True)) k_/\k_≠go15) (Kd.R_apart' (HO387.out) (Kd.S_typed HO_5.out) (by decide)) (fun k_ hk=>⟨trivial,fun e_=>(hk.2) (by rw [e_];rfl)⟩))) (fun _ h_=>Or.inr (h_)))) (fun _ hk=>hk) (fun k_ hk_=>((Kd.R_mono (ok':=fun k_=>((fun _=>True)) k_/\k_≠go15) (Kd.R_apart' (HO387.out) (Kd.S_typed HO_5.out) (by decide)) (fun k_ hk=>⟨trivial,fun e_=>(hk.2) (by rw [e_];rfl)⟩))).1 k_ hk_.symm);have hx18_0:=hcc18 0 _ rfl;(try simp only [show ((Kd.slice 4 Kd.bool)).sz=1 from rfl,Nat.mul_one,Nat.add_zero] at hx18_0);have hf18_0:=hfr18 0;(try simp only [show ((Kd.slice 4 Kd.bool)).sz=1 from rfl,Nat.mul_one,Nat.add_zero] at hf18_0);clear hcl18 hcc18 hfr18 hoki18 hH18;(try clear hM18);(try simp only [show ((Kd.slice 4 Kd.bool)).sz=1 from rfl,Nat.mul_one,Nat.add_zero] at HP18)) | ((with_reducible refine gate_store (t:=45) (p:=23) rfl ?_);refine store_event (t:=45) (p:=23) (v:=?vo_w19) (w1:=(w16.setCell ⟨go15,(x16_1:Int).toNat,none⟩ (v386))) ?hg ?ho ?hn ?hr ?_;(case ho=>rfl);(case hg=>rfl);(case hn=>rfl);(case hr=>first | (go_simp;done) | (go_simp;rfl) | (obtain⟨Av_,cv_,ev_⟩:=Kd.R_slice HO387.out;subst ev_;first | (go_simp;done) | (go_simp;rfl)));intro w19 hw;have hg:w16.grownBy w19 (some go15):=(by rw [hw];exact HP18.2);have hp_:Kd.S (Kd.slice 4 Kd.bool) 45 w19 w.heap.size (fun _=>True) (.slice (some ⟨go15,0,none⟩) x5_1.length co9) y388:=(by rw [hw,Ny388.out];exact HP18.1);clear HP18;have n0_:=Aside0.mk (Kd.R_over' (v:=(.slice (some ⟨go15,0,none⟩) x5_1.length co9)) (by (with_reducible repeat (first | apply Kd.R_alloc | apply Kd.R_drewN | apply Kd.R_drew));exact HO_4.out) (Kd.S_typed HO_5.out) (by decide) hg);have n1_:=Aside0.mk (hp_);have n2_:=Aside0.mk ((by rw [hw];exact below_set (HB.out) GB15.out:Below w.heap.size w w19));clear HO_4;clear HO_5;clear HB;clear HO387;have HO_4:=n0_;have HO_5:=n1_;have HB:=n2_;clear n0_ n1_ n2_;clear hg hw hp_;have p389:0<=(x16_1:Int):=of_decide_eq_true (by first | (with_reducible assumption) | assumption);have q389:x16_1<(y388.length:Int):=(by have h_:(x16_1:Int)<((x5_1.length:Int):Int):=of_decide_eq_true (by first | (with_reducible assumption) | assumption);first | (have e_:=(Kd.S_reads' HO_5.out).1;omega) | simpa only [Ny388.out,List.length_set] using h_);have ql389:((x16_1:Int)<((x5_1.length:Int):Int))=True:=eq_true (of_decide_eq_true (by first | (with_reducible assumption) | assumption));obtain⟨ad389,A389_0,c389_0,e389,hx389_0,hl389_0,hi389_0⟩:=at_L1 (Kd.S_reads' HO_5.out).2.2 x16_1 p389 q389;obtain rfl:(⟨go15,0,none⟩:Addr)=ad389:=(by injection e389);obtain⟨ce389,hce389,hMe389,hcc389⟩:=Kd.S_get HO_5.out [] x16_1 p389 (by first | exact q389 | exact of_decide_eq_true (by first | (with_reducible assumption) | assumption) | (have e_:=(Kd.S_reads' HO_5.out).1;omega));obtain⟨ve389_0,rfl,ge389_0⟩:=hMe389;have hv389_0:=hcc389 0 _ rfl;rw [Nat.add_zero,show ((Kd.slice 4 Kd.bool)).sz=1 from rfl,Nat.mul_one] at hv389_0;replace hv389_0:=Option.some.inj (hv389_0.symm.trans hx389_0);rw [hv389_0] at ge389_0;have HL389_0:=Aside0.mk (show Kd.R Kd.bool 4 _ _ _ _ (rd_L1 y388 x16_1) from ge389_0);clear hv389_0 ge389_0;have HX389_0:=Aside0.mk hx389_0;clear hcc389 hce389;(first | simp only [add_plain] at hx389_0 | simp only [add_at] at hx389_0 | simp only [Addr.add,Nat.zero_add] at hx389_0 | skip);have HR389_0:=Aside0.mk hi389_0;have HC389_0:=Aside0.mk hl389_0;clear hi389_0 hl389_0;replace p389:=eq_true p389;replace q389:=eq_true q389))
          go_loopg [29] k1 (fun kq v29 w'=>∃ (x5_2:List (List Bool)) (x29_2:Int),v29=.int .i64 x29_2/\Aside0 (spec_QRGiven.l1 kq a0 t378 t379 x5_2 x16_1 (y382.length:Int) x16_1 ((rd_L1 y388 x16_1).length:Int) x29_2=some r)/\Aside0 (kq<=k1)/\Aside0 (Kd.R (Kd.int .i64) 3 w' w.heap.size (fun _=>True) v380 t379)/\Aside0 (Kd.S (Kd.slice 4 Kd.bool) 45 w' w.heap.size (fun _=>True) (.slice (some ⟨go15,0,none⟩) x5_1.length co9) x5_2)/\Aside0 (Below w.heap.size w w'))
          case atStart=>exact⟨(y388),(0),(by first | rfl | (simp;done) | (simp [*];done)),H',⟨Nat.le_refl _⟩,⟨by (try simp only [hl5_1]);(with_reducible repeat (first | apply Kd.R_alloc | apply Kd.R_drewN | apply Kd.R_drew));exact HO_4.out⟩,⟨by (try simp only [hl5_1]);(with_reducible repeat (first | apply Kd.S_alloc | apply Kd.S_drewN | apply Kd.S_drew));exact HO_5.out⟩,⟨by repeat (first | (with_reducible first | exact HB.out | apply below_alloc | apply pw_below_drewN | apply below_drew1) | exact HB.out)⟩⟩
          case round=>
           clear H'
           try clear c1
           try clear p1
           try clear q1
           try clear hx1
           try clear hf1
           try clear p2
           try clear c3
           try clear p3
           try clear q3
           try clear hx3
           try clear c4
           try clear c4b0
           try clear c4b1
           try clear c5
           try clear c5b0
           try clear c5b1
           try clear c10
           try clear c10b0
           try clear c11
           try clear c11b0
           try clear c11b1
           try clear c12
           try clear c12b0
           try clear c12b1
           try clear c13
           try clear c13b0
           try clear c14
           try clear c14b0
           try clear c15
           try clear p15
           try clear q15
           try clear hx15
           try clear hf15
           try clear c18
           try clear hx18
           try clear hf18
           try clear hx15_0
           try clear hx18_0
           try clear hx389_0
           try clear p15
           try clear p2
           try clear p389
           try clear q15
           try clear q389
           obtain⟨x5_2,x29_2,rfl,HA,HK2,HO_4,HO_5,HB⟩:=hrel
           have hl5_2:=(Kd.S_reads' HO_5.out).1
           rw [hl5_2] at HO_5
           (try simp only [hl5_2])
           (try simp only [hl5_2] at HO_4)
           cases gk with
           | zero=>exact absurd HA.out (by simp [spec_QRGiven.l1])
           | succ k2=>
            have H:=HA.out
            clear HA
            simp only [spec_QRGiven.l1] at H
            by_cases c20:x29_2<((rd_L1 y388 x16_1).length:Int)
            ·rw [if_pos c20] at H
             have c20b0:decide (x29_2<((rd_L1 y388 x16_1).length:Int))=true:=decide_eq_true c20
             clear c20
             by_cases c21:0<=x16_1
             ·rw [if_pos c21] at H
              have c21b0:decide (0<=x16_1)=true:=decide_eq_true c21
              clear c21
              by_cases c22:x16_1<(x5_2.length:Int)
              ·rw [if_pos c22] at H
               have c22b0:decide (x16_1<(x5_2.length:Int))=true:=decide_eq_true c22
               clear c22
               replace H:=Option.bind_eq_some_iff.mp H
               obtain⟨t391,A230,H⟩:=H
               replace H:(if 0<=x29_2 then (if x29_2<((rd_L1 x5_2 x16_1).length:Int) then (spec_QRGiven.l1 k2 a0 t378 t379 (x5_2.set (x16_1:Int).toNat ((rd_L1 x5_2 x16_1).set (x29_2:Int).toNat t391)) x16_1 (y382.length:Int) x16_1 ((rd_L1 y388 x16_1).length:Int) (wrap64 (x29_2+1))) else (none)) else (none))=some r:=H
               have A23:=Aside0.mk A230
               clear A230
               by_cases c24:0<=x29_2
               ·rw [if_pos c24] at H
                have c24b0:decide (0<=x29_2)=true:=decide_eq_true c24
                clear c24
                by_cases c25:x29_2<((rd_L1 x5_2 x16_1).length:Int)
                ·rw [if_pos c25] at H
                 have c25b0:decide (x29_2<((rd_L1 x5_2 x16_1).length:Int))=true:=decide_eq_true c25
                 clear c25
                 obtain⟨y392,hy392⟩:∃ y_:List Bool,y_=((rd_L1 x5_2 x16_1).set (x29_2:Int).toNat t391):=⟨_,rfl⟩
                 replace H:(spec_QRGiven.l1 k2 a0 t378 t379 (x5_2.set (x16_1:Int).toNat y392) x16_1 (y382.length:Int) x16_1 ((rd_L1 y388 x16_1).length:Int) (wrap64 (x29_2+1)))=some r:=by first | (rw [hy392];with_reducible exact H) | (have H2_:=(Option.bind_some _ _).symm.trans H;rw [hy392];with_reducible exact H2_) | (have H2_:=(Option.bind_some _ _).symm.trans H;with_reducible exact H2_) | with_reducible exact H | (rw [hy392];exact H) | exact H
                 have Ny392:=Aside0.mk hy392
                 clear hy392
                 obtain⟨y394,hy394⟩:∃ y_:List (List Bool),y_=(x5_2.set (x16_1:Int).toNat y392):=⟨_,rfl⟩
                 replace H:(spec_QRGiven.l1 k2 a0 t378 t379 y394 x16_1 (y382.length:Int) x16_1 ((rd_L1 y388 x16_1).length:Int) (wrap64 (x29_2+1)))=some r:=by first | (rw [hy394];with_reducible exact H) | (have H2_:=(Option.bind_some _ _).symm.trans H;rw [hy394];with_reducible exact H2_) | (have H2_:=(Option.bind_some _ _).symm.trans H;with_reducible exact H2_) | with_reducible exact H | (rw [hy394];exact H) | exact H
                 have Ny394:=Aside0.mk hy394
                 clear hy394
                 have H':=Aside0.mk H
                 clear H
                 try go_wp2
                 have n0_:=Aside0.mk (Kd.R_drew HO_4.out)
                 have n1_:=Aside0.mk (Kd.S_drew HO_5.out)
                 have n2_:=Aside0.mk (below_drew1 HB.out)
                 clear HO_4
                 clear HO_5
                 clear HB
                 have HO_4:=n0_
                 have HO_5:=n1_
                 have HB:=n2_
                 clear n0_ n1_ n2_
                 have p390:0<=(x16_1:Int):=of_decide_eq_true (by first | (with_reducible assumption) | assumption)
                 have q390:x16_1<(x5_2.length:Int):=of_decide_eq_true (by first | (with_reducible assumption) | assumption)
                 obtain⟨ad390,A390_0,c390_0,e390,hx390_0,hl390_0,hi390_0⟩:=at_L1 (Kd.S_reads' HO_5.out).2.2 x16_1 p390 q390
                 obtain rfl:(⟨go15,0,none⟩:Addr)=ad390:=(by injection e390)
                 obtain⟨ce390,hce390,hMe390,hcc390⟩:=Kd.S_get HO_5.out [] x16_1 p390 (by first | exact q390 | exact of_decide_eq_true (by first | (with_reducible assumption) | assumption) | (have e_:=(Kd.S_reads' HO_5.out).1;omega))
                 obtain⟨ve390_0,rfl,ge390_0⟩:=hMe390
                 have hv390_0:=hcc390 0 _ rfl
                 rw [Nat.add_zero,show ((Kd.slice 4 Kd.bool)).sz=1 from rfl,Nat.mul_one] at hv390_0
                 replace hv390_0:=Option.some.inj (hv390_0.symm.trans hx390_0)
                 rw [hv390_0] at ge390_0
                 have HL390_0:=Aside0.mk (show Kd.R Kd.bool 4 _ _ _ _ (rd_L1 x5_2 x16_1) from ge390_0)
                 clear hv390_0 ge390_0
                 have HX390_0:=Aside0.mk hx390_0
                 clear hcc390 hce390
                 (first | simp only [add_plain] at hx390_0 | simp only [add_at] at hx390_0 | simp only [Addr.add,Nat.zero_add] at hx390_0 | skip)
                 have HR390_0:=Aside0.mk hi390_0
                 have HC390_0:=Aside0.mk hl390_0
                 clear hi390_0 hl390_0
                 replace p390:=eq_true p390
                 replace q390:=eq_true q390
                 obtain⟨Ao28,co28,eo28⟩:=Kd.R_slice HO_4.out
                 (first | subst eo28 | (injection eo28 with f1_ f2_ f3_;have f4_:=f1_.symm;have f5_:=f3_.symm;clear f1_ f2_ f3_;subst f4_;subst f5_))
                 refine start_ (n:=12) (S:=fun w'=>w'.cell? ⟨go15,(x16_1).toNat,none⟩=some (.slice A390_0 (rd_L1 x5_2 x16_1).length c390_0)) (ds:=[11]) #[false,false,false,false,false,false,false,false,false,false,false,false] (by kernel_rfl) rfl rfl (hx390_0) (fun hHeld=>?_);refine with_tabW spec_QRGiven.tab11 spec_QRGiven.bits11 (fun HT_ HW_=>?_)
                 generalize wr.drew=w27 at HO_4 HO_5 HB HL390_0 HR390_0 HX390_0 hx390_0 hHeld ⊢
                 refine pure_ (i:=0) (N:=some 32) (v:=?_) (a':=?_) #[true,false,false,false,false,false,false,false,false,false,false,false] rfl rfl (any_of HT_.out (by kernel_rfl)) (fun _ _ _ h=>h) (Or.inl ⟨by rfl,?_⟩) ?_ ?_
                 rotate_left
                 ·intro w'
                  go_simp
                  with_reducible rfl
                 rotate_left
                 ·simp only [Act.put,List.setIfInBounds_toArray,List.set_cons_zero,List.set_cons_succ,i64_w,i32_w]
                  rfl
                 refine pure_ (i:=1) (N:=some 33) (v:=?_) (a':=?_) #[true,true,false,false,false,false,false,false,false,false,false,false] rfl rfl (any_of HT_.out (by kernel_rfl)) (fun _ _ _ h=>h) (Or.inl ⟨by rfl,?_⟩) ?_ ?_
                 rotate_left
                 ·intro w'
                  go_simp
                  with_reducible rfl
                 rotate_left
                 ·simp only [Act.put,List.setIfInBounds_toArray,List.set_cons_zero,List.set_cons_succ,i64_w,i32_w]
                  rfl
                 refine pure_ (i:=2) (N:=some 34) (v:=?_) (a':=?_) #[true,true,true,false,false,false,false,false,false,false,false,false] rfl rfl (any_of HT_.out (by kernel_rfl)) (fun _ _ _ h=>h) (Or.inl ⟨by rfl,?_⟩) ?_ ?_
                 rotate_left
                 ·intro w'
                  go_simp
                  with_reducible rfl
                 rotate_left
                 ·simp only [Act.put,List.setIfInBounds_toArray,List.set_cons_zero,List.set_cons_succ,i64_w,i32_w]
                  rfl
                 refine pure_ (i:=4) (N:=some 36) (v:=?_) (a':=?_) #[true,true,true,false,true,false,false,false,false,false,false,false] rfl rfl (any_of HT_.out (by kernel_rfl)) (fun _ _ _ h=>h) (Or.inl ⟨by rfl,?_⟩) ?_ ?_
                 rotate_left
                 ·intro w'
                  go_simp
                  with_reducible rfl
                 rotate_left
                 ·simp only [Act.put,List.setIfInBounds_toArray,List.set_cons_zero,List.set_cons_succ,i64_w,i32_w]
                  rfl
                 refine pure_ (i:=5) (N:=some 37) (v:=?_) (a':=?_) #[true,true,true,false,true,true,false,false,false,false,false,false] rfl rfl (any_of HT_.out (by kernel_rfl)) (fun _ _ _ h=>h) (Or.inl ⟨by rfl,?_⟩) ?_ ?_
                 rotate_left
                 ·intro w'
                  go_simp
                  with_reducible rfl
                 rotate_left
                 ·simp only [Act.put,List.setIfInBounds_toArray,List.set_cons_zero,List.set_cons_succ,i64_w,i32_w]
                  rfl
                 refine pure_ (i:=6) (N:=some 38) (v:=?_) (a':=?_) #[true,true,true,false,true,true,true,false,false,false,false,false] rfl rfl (any_of HT_.out (by kernel_rfl)) (fun _ _ _ h=>h) (Or.inl ⟨by rfl,?_⟩) ?_ ?_
                 rotate_left
                 ·intro w'
                  go_simp
                  with_reducible rfl
                 rotate_left
                 ·simp only [Act.put,List.setIfInBounds_toArray,List.set_cons_zero,List.set_cons_succ,i64_w,i32_w]
                  rfl
                 refine pure_ (i:=7) (N:=some 39) (v:=?_) (a':=?_) #[true,true,true,false,true,true,true,true,false,false,false,false] rfl rfl (any_of HT_.out (by kernel_rfl)) (fun _ _ _ h=>h) (Or.inl ⟨by rfl,?_⟩) ?_ ?_
                 rotate_left
                 ·intro w'
                  go_simp
                  with_reducible rfl
                 rotate_left
                 ·simp only [Act.put,List.setIfInBounds_toArray,List.set_cons_zero,List.set_cons_succ,i64_w,i32_w]
                  rfl
                 refine pure_ (i:=8) (N:=some 40) (v:=?_) (a':=?_) #[true,true,true,false,true,true,true,true,true,false,false,false] rfl rfl (any_of HT_.out (by kernel_rfl)) (fun _ _ _ h=>h) (Or.inl ⟨by rfl,?_⟩) ?_ ?_
                 rotate_left
                 ·intro w'
                  go_simp
                  with_reducible rfl
                 rotate_left
                 ·simp only [Act.put,List.setIfInBounds_toArray,List.set_cons_zero,List.set_cons_succ,i64_w,i32_w]
                  rfl
                 refine take_ (i:=3) (N:=some 35) (v:=?_) (a':=?_) #[true,true,true,true,true,true,true,true,true,false,false,false] rfl rfl (take_ofW HT_.out HW_.out (by kernel_rfl)) (fun _ _ _ h=>h) (Or.inl ⟨by rfl,?_⟩) hHeld ?_ ?_
                 rotate_left
                 ·intro w' s0
                  go_simp
                  with_reducible rfl
                 rotate_left
                 ·simp only [Act.put,List.setIfInBounds_toArray,List.set_cons_zero,List.set_cons_succ,i64_w,i32_w]
                  rfl
                 refine one_ (i:=9) (N:=some 41) #[true,true,true,true,true,true,true,true,true,true,false,false] rfl rfl (one_of HT_.out (by kernel_rfl)) (by decide) (fun K hK=>?_)
                 refine goes_ Tryz.func49 (by kernel_rfl) rfl #[.int .i64 a0,.slice Ao28 t379.length co28,.int .i64 x16_1,.int .i64 x29_2] (by rfl) rfl rfl (by (try simp only [List.map_toArray,List.map_cons,List.map_nil]);first | done | rfl | (simp only [List.length_drop,List.length_take];rfl)) ?_
                 with_reducible refine (spec_qrGiven.calls k2 a0 _ _ t379 x16_1 x29_2 t391 _ ?side1 ?side2 A23.out).mono ?_
                 (case side1=>repeat (first | exact (Kd.R_reads' HO_4.out).2.2 | (with_reducible refine Kd.C_alloc ?_ _) | (with_reducible refine Kd.C_drewN ?_ _) | (with_reducible refine Kd.C_drew ?_)))
                 (case side2=>exact (Kd.R_reads' HO_4.out).2.1)
                 rintro e w29 ⟨rfl,hb⟩
                 have HS0_:=(hb.cell (World.block_lt_of_cell? _ _ (hHeld))).trans (hHeld)
                 refine⟨_,rfl,?_⟩
                 have n0_:=Aside0.mk (Kd.R_below (by (with_reducible repeat (first | apply Kd.R_alloc | apply Kd.R_drewN | apply Kd.R_drew));exact HO_4.out) hb)
                 have n1_:=Aside0.mk (Kd.S_below (by (with_reducible repeat (first | apply Kd.S_alloc | apply Kd.S_drewN | apply Kd.S_drew));exact HO_5.out) hb)
                 have n2_:=Aside0.mk (Kd.R_below (by (with_reducible repeat (first | apply Kd.R_alloc | apply Kd.R_drewN | apply Kd.R_drew));exact HL390_0.out) hb)
                 have n3_:=Aside0.mk (Kd.C_below (by repeat (first | (with_reducible exact HR390_0.out) | (with_reducible refine Kd.C_alloc ?_ _) | (with_reducible refine Kd.C_drewN ?_ _) | (with_reducible refine Kd.C_drew ?_) | exact HR390_0.out)) hb)
                 have n4_:=Aside0.mk (pw_cell_below hb HX390_0.out)
                 have n5_:=Aside0.mk (below_step (by repeat (first | (with_reducible first | exact HB.out | apply below_alloc | apply pw_below_drewN | apply below_drew1) | exact HB.out)) hb)
                 clear HO_4
                 clear HO_5
                 clear HL390_0
                 clear HR390_0
                 clear HX390_0
                 clear HB
                 have HO_4:=n0_
                 have HO_5:=n1_
                 have HL390_0:=n2_
                 have HR390_0:=n3_
                 have HX390_0:=n4_
                 have HB:=n5_
                 clear n0_ n1_ n2_ n3_ n4_ n5_
                 (try clear hb)
                 (try clear hb2)
                 (try clear hk)
                 (try clear hi)
                 have p26:0<=(x29_2:Int):=of_decide_eq_true (by first | (with_reducible assumption) | assumption)
                 have q26:(x29_2:Int)<(((rd_L1 x5_2 x16_1).length:Int):Int):=of_decide_eq_true (by first | (with_reducible assumption) | assumption)
                 obtain⟨go26,co26,eo26,gb26,gl26,cl26,HG26⟩:=Kd.R_form HL390_0.out (by omega)
                 (first | cases eo26 | (injection eo26 with ea_ en_ ec_;(first | subst ea_ | (injection ea_ with ea_;subst ea_));subst ec_;clear en_))
                 have GB26:=Aside0.mk gb26
                 have GG26:=Aside0.mk HG26
                 clear gb26 gl26 HG26
                 obtain⟨hx26_0,hf26_0⟩:=Kd.R_celln false HL390_0.out (x29_2:Int) p26 q26
                 replace p26:=eq_true p26
                 replace q26:=eq_true q26
                 have hq30:(x16_1:Int)<(x5_2.length:Int):=(by have h_:(x16_1:Int)<((x5_2.length:Int):Int):=of_decide_eq_true (by first | (with_reducible assumption) | assumption);first | exact h_ | (have e_:=(Kd.S_reads' HO_5.out).1;omega) | simpa only [List.length_set,List.length_set] using h_)
                 obtain⟨oki30,ce30,hcl30,hM30,hcc30,hok30,hbk30⟩:=Kd.S_borrow HO_5.out [] (x16_1:Int) (of_decide_eq_true (by first | (with_reducible assumption) | assumption)) hq30
                 obtain⟨ve30_0,rfl,ge30_0⟩:=hM30
                 have hv30:=hcc30 0 _ rfl
                 rw [Nat.add_zero,show ((Kd.slice 4 Kd.bool)).sz=1 from rfl,Nat.mul_one] at hv30
                 replace hv30:=Option.some.inj (hv30.symm.trans HX390_0.out)
                 subst hv30
                 clear hcc30 hcl30
                 replace ge30_0:=(show Kd.R Kd.bool 4 _ _ _ _ (rd_L1 x5_2 x16_1) from ge30_0)
                 have HP30:=Kd.R_putg ge30_0 (x29_2:Int) t391
                 rw [<- Ny392.out] at HP30
                 have HS30:=hbk30 HP30.2 (fun k_ e_=>by injection e_ with e_;subst e_;exact ge30_0.1 _ rfl) (x':=y392) (Kd.M_row HP30.1)
                 rw [<- Ny394.out] at HS30
                 have HQ30:=Aside0.mk HS30
                 clear HP30 HS30 hbk30 hok30
                 refine hK.out _ _ (HS0_) (fun hHeld=>?_)
                 clear hK K
                 refine norm_ (a':=?_) ?_ ?_
                 rotate_left
                 ·show Act.put _ (some 41) _=_
                  simp only [Act.put,List.setIfInBounds_toArray,List.set_cons_zero,List.set_cons_succ,i64_w,i32_w]
                  rfl
                 refine pure_ (i:=10) (N:=some 42) (v:=?_) (a':=?_) #[true,true,true,true,true,true,true,true,true,true,true,false] rfl rfl (any_of HT_.out (by kernel_rfl)) (fun _ _ _ h=>h) (Or.inl ⟨by rfl,?_⟩) ?_ ?_
                 rotate_left
                 ·intro w'
                  go_simp
                  with_reducible rfl
                 rotate_left
                 ·simp only [Act.put,List.setIfInBounds_toArray,List.set_cons_zero,List.set_cons_succ,i64_w,i32_w]
                  rfl
                 refine last_ (i:=11) (N:=none) #[true,true,true,true,true,true,true,true,true,true,true,true] rfl rfl (one_of HT_.out (by kernel_rfl)) (by decide) (fun K hK=>?_)
                 refine skip_ (w1:=?_) (by rfl) rfl ?_ ?_
                 rotate_left
                 ·go_simp
                  rfl
                 refine hK.out _ _ ?_
                 clear hK K
                 refine done_ (done_of HT_.out (by kernel_rfl)) ?_
                 try go_wp2
                 (try simp only [<- hl5_2])
                 go_roundg k2
                 case measure=>have:=HK1.out;have:=HK2.out;omega
                 case rel=>exact⟨(y394),(wrap64 (x29_2+1)),(by first | rfl | (simp;done) | (simp [*];done)),H',⟨by have:=HK1.out;have:=HK2.out;omega⟩,⟨by (try simp only [hl5_1]);(try simp only [hl5_2]);(with_reducible repeat (first | apply Kd.R_alloc | apply Kd.R_drewN | apply Kd.R_drew));exact Kd.R_mono (Kd.R_far (p:=⟨go26,(x29_2:Int).toNat,none⟩) (Kd.R_types HO_4.out GG26.out (by decide)) (fun _ hk=>hk.2) (.bool t391)) (fun _ hk=>trivial)⟩,⟨by (try simp only [hl5_1]);(try simp only [hl5_2]);(with_reducible repeat (first | apply Kd.S_alloc | apply Kd.S_drewN | apply Kd.S_drew));exact HQ30.out⟩,⟨by repeat (first | (with_reducible first | exact HB.out | apply below_alloc | apply pw_below_drewN | apply below_drew1 | refine below_set ?_ GB26.out) | exact HB.out)⟩⟩
                ·rw [if_neg c25] at H
                 exact absurd H (by simp)
               ·rw [if_neg c24] at H
                exact absurd H (by simp)
              ·rw [if_neg c22] at H
               exact absurd H (by simp)
             ·rw [if_neg c21] at H
              exact absurd H (by simp)
            ·rw [if_neg c20] at H
             have c20b0:decide (x29_2<((rd_L1 y388 x16_1).length:Int))=false:=decide_eq_false c20
             clear c20
             have H':=Aside0.mk H
             clear H
             go_wp2
             (try simp only [<- hl5_1,<- hl5_2])
             go_roundg k2
             case measure=>have:=HK1.out;have:=HK2.out;omega
             case rel=>exact⟨(x5_2),(wrap64 (x16_1+1)),(by first | rfl | (simp;done) | (simp [*];done)),H',⟨by have:=HK1.out;have:=HK2.out;omega⟩,⟨by (try simp only [hl5_1]);(try simp only [hl5_2]);(with_reducible repeat (first | apply Kd.R_alloc | apply Kd.R_drewN | apply Kd.R_drew));exact HO_4.out⟩,⟨by (try simp only [hl5_1]);(try simp only [hl5_2]);(with_reducible repeat (first | apply Kd.S_alloc | apply Kd.S_drewN | apply Kd.S_drew));exact HO_5.out⟩,⟨by repeat (first | (with_reducible first | exact HB.out | apply below_alloc | apply pw_below_drewN | apply below_drew1) | exact HB.out)⟩⟩
         ·rw [if_neg c14] at H
          exact absurd H (by simp)
        ·rw [if_neg c13] at H
         exact absurd H (by simp)
       ·rw [if_neg c12] at H
        exact absurd H (by simp)
      ·rw [if_neg c11] at H
       exact absurd H (by simp)
     ·rw [if_neg c10] at H
      have c10b0:decide (x16_1<(y382.length:Int))=false:=decide_eq_false c10
      have c10b9:decide (x16_1<(x5_1.length:Int))=false:=by first | assumption | (have e_:=hl5_1;first | (rw [e_];exact c10b0) | (rw [<- e_];exact c10b0) | (have c_:=of_decide_eq_false c10b0;exact decide_eq_false (by omega)))
      clear c10
      obtain rfl:=Option.some.inj H
      go_wp2
      go_ret
      exact⟨_,by first | rfl | (simp [errW_none,errW_some]<;>rfl) | (simp [*,errW_none,errW_some]<;>rfl),by (with_reducible repeat (first | apply Kd.S_alloc | apply Kd.S_drewN | apply Kd.S_drew));exact HO_5.out,by repeat (first | (with_reducible first | exact HB.out | apply below_alloc | apply pw_below_drewN | apply below_drew1) | exact HB.out)⟩
  ·rw [if_neg c5] at H
   exact absurd H (by simp)
 ·rw [if_neg c4] at H
  exact absurd H (by simp)
end Go.Proofs.YtgccjgpdjkhpdaaGreat.F
