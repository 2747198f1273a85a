import Derived.Test.YtgccjgpdjkhpdaaGreatVCrop2
/-! Own texts of this claim, part 7. -/
namespace Go.Proofs.YtgccjgpdjkhpdaaGreat.F
open Go.RowKit Go.Proofs.YtgccjgpdjkhpdaaGreatW.PrintWords Go.Proofs.YtgccjgpdjkhpdaaGreatW.PrintLast Go.Proofs.YtgccjgpdjkhpdaaGreatW.PrintMore
attribute [local go_sem] max2_int min2_int max_two min_two max_three min_three max_four min_four
set_option linter.unusedVariables false
set_option linter.unusedSimpArgs false
mutual
def spec_qrAlign.l0:Nat->List Int->Int->Int->Int->List Int->Int->Int->Option (Int)
 | 0,_,_,_,_,_,_,_=>none
 | k+1,x0,x1,x2,x7,x16,x17,x18=>if x18<x17 then (if 0<=x18 then (if x18<(x16.length:Int) then (if x1<(wrap64 ((rd x16 x18)-2)) then (spec_qrAlign.j1 k x0 x1 x2 x7 x18 (rd x16 x18) x16 x17 x18 true) else (spec_qrAlign.j1 k x0 x1 x2 x7 x18 (rd x16 x18) x16 x17 x18 (decide (x1>(wrap64 ((rd x16 x18)+2)))))) else (none)) else (none)) else (some (-1))
def spec_qrAlign.j1:Nat->List Int->Int->Int->Int->Int->Int->List Int->Int->Int->Bool->Option (Int)
 | 0,_,_,_,_,_,_,_,_,_,_=>none
 | k+1,x0,x1,x2,x7,x8,x9,x16,x17,x18,x32=>if x32=true then (spec_qrAlign.l0 k x0 x1 x2 x7 x16 x17 (wrap64 (x18+1))) else (spec_qrAlign.l1 k x0 x1 x2 x7 x8 x9 x16 x17 x18 x0 (x0.length:Int) 0)
def spec_qrAlign.l1:Nat->List Int->Int->Int->Int->Int->Int->List Int->Int->Int->List Int->Int->Int->Option (Int)
 | 0,_,_,_,_,_,_,_,_,_,_,_,_=>none
 | k+1,x0,x1,x2,x7,x8,x9,x16,x17,x18,x33,x34,x35=>if x35<x34 then (if 0<=x35 then (if x35<(x33.length:Int) then (if x8=0 then (if x35=0 then (spec_qrAlign.j3 k x0 x1 x2 x7 x8 x9 (rd x33 x35) x16 x17 x18 x33 x34 x35 true) else (if x35=x7 then (spec_qrAlign.j3 k x0 x1 x2 x7 x8 x9 (rd x33 x35) x16 x17 x18 x33 x34 x35 true) else (if x8=x7 then (spec_qrAlign.j3 k x0 x1 x2 x7 x8 x9 (rd x33 x35) x16 x17 x18 x33 x34 x35 (x35==0)) else (spec_qrAlign.j3 k x0 x1 x2 x7 x8 x9 (rd x33 x35) x16 x17 x18 x33 x34 x35 false)))) else (if x8=x7 then (spec_qrAlign.j3 k x0 x1 x2 x7 x8 x9 (rd x33 x35) x16 x17 x18 x33 x34 x35 (x35==0)) else (spec_qrAlign.j3 k x0 x1 x2 x7 x8 x9 (rd x33 x35) x16 x17 x18 x33 x34 x35 false))) else (none)) else (none)) else (spec_qrAlign.l0 k x0 x1 x2 x7 x16 x17 (wrap64 (x18+1)))
def spec_qrAlign.j3:Nat->List Int->Int->Int->Int->Int->Int->Int->List Int->Int->Int->List Int->Int->Int->Bool->Option (Int)
 | 0,_,_,_,_,_,_,_,_,_,_,_,_,_,_=>none
 | k+1,x0,x1,x2,x7,x8,x9,x11,x16,x17,x18,x33,x34,x35,x59=>if x59=true then (spec_qrAlign.l1 k x0 x1 x2 x7 x8 x9 x16 x17 x18 x33 x34 (wrap64 (x35+1))) else ((spec_qrFar.f x1 x2 x9 x11).bind fun t303=>(if t303<=2 then (some t303) else (spec_qrAlign.l1 k x0 x1 x2 x7 x8 x9 x16 x17 x18 x33 x34 (wrap64 (x35+1)))))
end
def spec_qrAlign.f (k:Nat)(l0:List Int)(a1:Int)(a2:Int):Option (Int):=spec_qrAlign.l0 k l0 a1 a2 (wrap64 ((l0.length:Int)-1)) l0 (l0.length:Int) 0
theorem spec_qrAlign.mono_l:∀ k,(∀ y0 y1 y2 y3 y4 y5 y6,LeO (spec_qrAlign.l0 k y0 y1 y2 y3 y4 y5 y6) (spec_qrAlign.l0 (k+1) y0 y1 y2 y3 y4 y5 y6))/\(∀ y0 y1 y2 y3 y4 y5 y6 y7 y8 y9,LeO (spec_qrAlign.j1 k y0 y1 y2 y3 y4 y5 y6 y7 y8 y9) (spec_qrAlign.j1 (k+1) y0 y1 y2 y3 y4 y5 y6 y7 y8 y9))/\(∀ y0 y1 y2 y3 y4 y5 y6 y7 y8 y9 y10 y11,LeO (spec_qrAlign.l1 k y0 y1 y2 y3 y4 y5 y6 y7 y8 y9 y10 y11) (spec_qrAlign.l1 (k+1) y0 y1 y2 y3 y4 y5 y6 y7 y8 y9 y10 y11))/\(∀ y0 y1 y2 y3 y4 y5 y6 y7 y8 y9 y10 y11 y12 y13,LeO (spec_qrAlign.j3 k y0 y1 y2 y3 y4 y5 y6 y7 y8 y9 y10 y11 y12 y13) (spec_qrAlign.j3 (k+1) y0 y1 y2 y3 y4 y5 y6 y7 y8 y9 y10 y11 y12 y13))
 | 0=>⟨fun _ _ _ _ _ _ _ r h=>by simp [spec_qrAlign.l0] at h,fun _ _ _ _ _ _ _ _ _ _ r h=>by simp [spec_qrAlign.j1] at h,fun _ _ _ _ _ _ _ _ _ _ _ _ r h=>by simp [spec_qrAlign.l1] at h,fun _ _ _ _ _ _ _ _ _ _ _ _ _ _ r h=>by simp [spec_qrAlign.j3] at h⟩
 | k+1=>by
  obtain⟨ih0,ih1,ih2,ih3⟩:=spec_qrAlign.mono_l k
  refine⟨?_,?_,?_,?_⟩
  ·intro y0 y1 y2 y3 y4 y5 y6
   unfold spec_qrAlign.l0
   repeat' first
   | (with_reducible exact ih0 _ _ _ _ _ _ _)
   | (with_reducible exact ih1 _ _ _ _ _ _ _ _ _ _)
   | (with_reducible exact ih2 _ _ _ _ _ _ _ _ _ _ _ _)
   | (with_reducible exact ih3 _ _ _ _ _ _ _ _ _ _ _ _ _ _)
   | (with_reducible exact LeO.refl _)
   | (with_reducible exact LeO.none _)
   | (with_reducible refine LeO.ite ?_ ?_)
   | (with_reducible refine LeO.bind ?_ (fun _=>?_))
   | exact ih0 _ _ _ _ _ _ _
   | exact ih1 _ _ _ _ _ _ _ _ _ _
   | exact ih2 _ _ _ _ _ _ _ _ _ _ _ _
   | exact ih3 _ _ _ _ _ _ _ _ _ _ _ _ _ _
   | exact LeO.none _
   | refine LeO.ite ?_ ?_
   | refine LeO.bind ?_ (fun _=>?_)
  ·intro y0 y1 y2 y3 y4 y5 y6 y7 y8 y9
   unfold spec_qrAlign.j1
   repeat' first
   | (with_reducible exact ih0 _ _ _ _ _ _ _)
   | (with_reducible exact ih1 _ _ _ _ _ _ _ _ _ _)
   | (with_reducible exact ih2 _ _ _ _ _ _ _ _ _ _ _ _)
   | (with_reducible exact ih3 _ _ _ _ _ _ _ _ _ _ _ _ _ _)
   | (with_reducible exact LeO.refl _)
   | (with_reducible exact LeO.none _)
   | (with_reducible refine LeO.ite ?_ ?_)
   | (with_reducible refine LeO.bind ?_ (fun _=>?_))
   | exact ih0 _ _ _ _ _ _ _
   | exact ih1 _ _ _ _ _ _ _ _ _ _
   | exact ih2 _ _ _ _ _ _ _ _ _ _ _ _
   | exact ih3 _ _ _ _ _ _ _ _ _ _ _ _ _ _
   | exact LeO.none _
   | refine LeO.ite ?_ ?_
   | refine LeO.bind ?_ (fun _=>?_)
  ·intro y0 y1 y2 y3 y4 y5 y6 y7 y8 y9 y10 y11
   unfold spec_qrAlign.l1
   repeat' first
   | (with_reducible exact ih0 _ _ _ _ _ _ _)
   | (with_reducible exact ih1 _ _ _ _ _ _ _ _ _ _)
   | (with_reducible exact ih2 _ _ _ _ _ _ _ _ _ _ _ _)
   | (with_reducible exact ih3 _ _ _ _ _ _ _ _ _ _ _ _ _ _)
   | (with_reducible exact LeO.refl _)
   | (with_reducible exact LeO.none _)
   | (with_reducible refine LeO.ite ?_ ?_)
   | (with_reducible refine LeO.bind ?_ (fun _=>?_))
   | exact ih0 _ _ _ _ _ _ _
   | exact ih1 _ _ _ _ _ _ _ _ _ _
   | exact ih2 _ _ _ _ _ _ _ _ _ _ _ _
   | exact ih3 _ _ _ _ _ _ _ _ _ _ _ _ _ _
   | exact LeO.none _
   | refine LeO.ite ?_ ?_
   | refine LeO.bind ?_ (fun _=>?_)
  ·intro y0 y1 y2 y3 y4 y5 y6 y7 y8 y9 y10 y11 y12 y13
   unfold spec_qrAlign.j3
   repeat' first
   | (with_reducible exact ih0 _ _ _ _ _ _ _)
   | (with_reducible exact ih1 _ _ _ _ _ _ _ _ _ _)
   | (with_reducible exact ih2 _ _ _ _ _ _ _ _ _ _ _ _)
   | (with_reducible exact ih3 _ _ _ _ _ _ _ _ _ _ _ _ _ _)
   | (with_reducible exact LeO.refl _)
   | (with_reducible exact LeO.none _)
   | (with_reducible refine LeO.ite ?_ ?_)
   | (with_reducible refine LeO.bind ?_ (fun _=>?_))
   | exact ih0 _ _ _ _ _ _ _
   | exact ih1 _ _ _ _ _ _ _ _ _ _
   | exact ih2 _ _ _ _ _ _ _ _ _ _ _ _
   | exact ih3 _ _ _ _ _ _ _ _ _ _ _ _ _ _
   | exact LeO.none _
   | refine LeO.ite ?_ ?_
   | refine LeO.bind ?_ (fun _=>?_)
theorem spec_qrAlign.mono:∀ a0 a1 a2 k,LeO (spec_qrAlign.f k a0 a1 a2) (spec_qrAlign.f (k+1) a0 a1 a2):=by
 intro a0 a1 a2 k
 obtain⟨ih0,ih1,ih2,ih3⟩:=spec_qrAlign.mono_l k
 unfold spec_qrAlign.f
 repeat' first
   | (with_reducible exact ih0 _ _ _ _ _ _ _)
   | (with_reducible exact ih1 _ _ _ _ _ _ _ _ _ _)
   | (with_reducible exact ih2 _ _ _ _ _ _ _ _ _ _ _ _)
   | (with_reducible exact ih3 _ _ _ _ _ _ _ _ _ _ _ _ _ _)
   | (with_reducible exact LeO.refl _)
   | (with_reducible exact LeO.none _)
   | (with_reducible refine LeO.ite ?_ ?_)
   | (with_reducible refine LeO.bind ?_ (fun _=>?_))
   | exact ih0 _ _ _ _ _ _ _
   | exact ih1 _ _ _ _ _ _ _ _ _ _
   | exact ih2 _ _ _ _ _ _ _ _ _ _ _ _
   | exact ih3 _ _ _ _ _ _ _ _ _ _ _ _ _ _
   | exact LeO.none _
   | refine LeO.ite ?_ ?_
   | refine LeO.bind ?_ (fun _=>?_)
set_option maxHeartbeats 8000000 in
set_option maxRecDepth 100000 in
theorem spec_qrAlign.calls (k:Nat)(A0:Option Addr)(c0:Nat)(l0:List Int)(a1:Int)(a2:Int)(r:Int)(w:World)(hr0:Kd.C (Kd.int .i64) w A0 l0.length l0)(hc0:l0.length<=c0)(h:spec_qrAlign.f k l0 a1 a2=some r) :
  Calls Tryz.prog 96 #[.slice A0 l0.length c0,.int .i64 a1,.int .i64 a2] w fun e w'=>e=.returned (.int .i64 r)/\Below w.heap.size w w':=by
 have HR0:=Aside0.mk hr0
 have HC0:=Aside0.mk hc0
 clear hr0 hc0
 have HB:=Aside0.mk (Below.refl w.heap.size w)
 have H:(spec_qrAlign.l0 k l0 a1 a2 (wrap64 ((l0.length:Int)-1)) l0 (l0.length:Int) 0)=some r:=h
 clear h
 have H':=Aside0.mk H
 clear H
 go_enter Tryz.func96,Tryz.ntmps96
 go_wp2
 go_loopg [18] k (fun kq v18 w'=>∃ (x18_1:Int),v18=.int .i64 x18_1/\Aside0 (spec_qrAlign.l0 kq l0 a1 a2 (wrap64 ((l0.length:Int)-1)) l0 (l0.length:Int) x18_1=some r)/\Aside0 (kq<=k)/\Aside0 (Below w.heap.size w w'))
 case atStart=>exact⟨(0),(by first | rfl | (simp;done) | (simp [*];done)),H',⟨Nat.le_refl _⟩,⟨by repeat (first | (with_reducible first | exact HB.out | apply below_alloc | apply pw_below_drewN | apply below_drew1) | exact HB.out)⟩⟩
 case round=>
  clear H'
  try clear p2
  obtain⟨x18_1,rfl,HA,HK1,HB⟩:=hrel
  cases gk with
  | zero=>exact absurd HA.out (by simp [spec_qrAlign.l0])
  | succ k1=>
   have H:=HA.out
   clear HA
   simp only [spec_qrAlign.l0] at H
   by_cases c4:x18_1<(l0.length:Int)
   ·rw [if_pos c4] at H
    have c4b0:decide (x18_1<(l0.length:Int))=true:=decide_eq_true c4
    clear c4
    by_cases c5:0<=x18_1
    ·rw [if_pos c5] at H
     have c5b0:decide (0<=x18_1)=true:=decide_eq_true c5
     clear c5
     by_cases c6:x18_1<(l0.length:Int)
     ·rw [if_pos c6] at H
      have c6b0:decide (x18_1<(l0.length:Int))=true:=decide_eq_true c6
      clear c6
      have HC7:=Aside0.mk H
      clear H
      have p301:0<=(x18_1:Int):=of_decide_eq_true (by first | (with_reducible assumption) | assumption)
      have q301:x18_1<(l0.length:Int):=of_decide_eq_true (by first | (with_reducible assumption) | assumption)
      obtain⟨ad301,e301,hx301_0⟩:=Kd.at_int HR0.out x18_1 p301 q301
      cases e301
      replace hx301_0:=(HB.out.cell (World.block_lt_of_cell? w _ hx301_0)).trans hx301_0
      replace p301:=eq_true p301
      replace q301:=eq_true q301
      go_upto_region 5 with (fail)
      go_cut [32] (fun v32 wc=>∃ (kq:Nat) (x32_6:Bool),v32=.bool x32_6/\Aside0 (spec_qrAlign.j1 kq l0 a1 a2 (wrap64 ((l0.length:Int)-1)) x18_1 (rd l0 x18_1) l0 (l0.length:Int) x18_1 x32_6=some r)/\Aside0 (kq<=k1)/\Aside0 (Below w.heap.size w wc))
      case first=>
       have H:=HC7.out
       clear HC7
       by_cases c8:a1<(wrap64 ((rd l0 x18_1)-2))
       ·rw [if_pos c8] at H
        have c8b0:decide (a1<(wrap64 ((rd l0 x18_1)-2)))=true:=decide_eq_true c8
        clear c8
        (first | rw [c8b0] | (simp only [i64_w,i32_w];rw [c8b0]) | skip)
        have H':=Aside0.mk H
        clear H
        go_wp2
        go_meet
        case rel=>exact⟨_,(true),(by first | rfl | (simp;done) | (simp [*];done)),H',⟨by have:=HK1.out;first | omega | exact Nat.le_refl _⟩,⟨by repeat (first | (with_reducible first | exact HB.out | apply below_alloc | apply pw_below_drewN | apply below_drew1) | exact HB.out)⟩⟩
       ·rw [if_neg c8] at H
        have c8b0:decide (a1<(wrap64 ((rd l0 x18_1)-2)))=false:=decide_eq_false c8
        clear c8
        (first | rw [c8b0] | (simp only [i64_w,i32_w];rw [c8b0]) | skip)
        have H':=Aside0.mk H
        clear H
        go_wp2
        go_meet
        case rel=>exact⟨_,(decide (a1>(wrap64 ((rd l0 x18_1)+2)))),(by first | rfl | (simp;done) | (simp [*];done)),H',⟨by have:=HK1.out;first | omega | exact Nat.le_refl _⟩,⟨by repeat (first | (with_reducible first | exact HB.out | apply below_alloc | apply pw_below_drewN | apply below_drew1) | exact HB.out)⟩⟩
      case rest=>
       clear HC7
       try clear p2
       try clear p3
       try clear q3
       try clear hx3
       try clear c4
       try clear c4b0
       try clear c5
       try clear c5b0
       try clear c6
       try clear c6b0
       try clear p6
       try clear c8
       try clear c8b0
       try clear hx301_0
       try clear p2
       try clear p301
       try clear q301
       obtain⟨kq,x32_6,rfl,HA,HJ6,HB⟩:=hcut
       cases kq with
       | zero=>exact absurd HA.out (by simp [spec_qrAlign.j1])
       | succ kj6=>
        have H:=HA.out
        clear HA
        simp only [spec_qrAlign.j1] at H
        by_cases c9:x32_6=true
        ·subst c9
         have H1:(spec_qrAlign.l0 kj6 l0 a1 a2 (wrap64 ((l0.length:Int)-1)) l0 (l0.length:Int) (wrap64 (x18_1+1)))=some r:=by rw [if_pos rfl] at H;exact H
         clear H
         have H:=H1
         clear H1
         have H':=Aside0.mk H
         clear H
         go_wp2
         go_roundg kj6
         case measure=>have:=HK1.out;have:=HJ6.out;omega
         case rel=>exact⟨(wrap64 (x18_1+1)),(by first | rfl | (simp;done) | (simp [*];done)),H',⟨by have:=HK1.out;have:=HJ6.out;omega⟩,⟨by repeat (first | (with_reducible first | exact HB.out | apply below_alloc | apply pw_below_drewN | apply below_drew1) | exact HB.out)⟩⟩
        ·replace c9:=Bool.eq_false_iff.mpr c9
         subst c9
         have H1:(spec_qrAlign.l1 kj6 l0 a1 a2 (wrap64 ((l0.length:Int)-1)) x18_1 (rd l0 x18_1) l0 (l0.length:Int) x18_1 l0 (l0.length:Int) 0)=some r:=by rw [if_neg (show ¬ (false=true) by decide)] at H;exact H
         clear H
         have H:=H1
         clear H1
         have H':=Aside0.mk H
         clear H
         go_wp2
         go_loopg [35] kj6 (fun kq v35 w'=>∃ (x35_3:Int),v35=.int .i64 x35_3/\Aside0 (spec_qrAlign.l1 kq l0 a1 a2 (wrap64 ((l0.length:Int)-1)) x18_1 (rd l0 x18_1) l0 (l0.length:Int) x18_1 l0 (l0.length:Int) x35_3=some r)/\Aside0 (kq<=kj6)/\Aside0 (Below w.heap.size w w'))
         case atStart=>exact⟨(0),(by first | rfl | (simp;done) | (simp [*];done)),H',⟨Nat.le_refl _⟩,⟨by repeat (first | (with_reducible first | exact HB.out | apply below_alloc | apply pw_below_drewN | apply below_drew1) | exact HB.out)⟩⟩
         case round=>
          clear H'
          try clear p2
          try clear p3
          try clear q3
          try clear hx3
          try clear c4
          try clear c4b0
          try clear c5
          try clear c5b0
          try clear c6
          try clear c6b0
          try clear p6
          try clear c8
          try clear c8b0
          try clear c9
          try clear hx301_0
          try clear p2
          try clear p3
          try clear p301
          try clear p6
          try clear q3
          try clear q301
          obtain⟨x35_3,rfl,HA,HK3,HB⟩:=hrel
          cases gk with
          | zero=>exact absurd HA.out (by simp [spec_qrAlign.l1])
          | succ k3=>
           have H:=HA.out
           clear HA
           simp only [spec_qrAlign.l1] at H
           by_cases c10:x35_3<(l0.length:Int)
           ·rw [if_pos c10] at H
            have c10b0:decide (x35_3<(l0.length:Int))=true:=decide_eq_true c10
            clear c10
            by_cases c11:0<=x35_3
            ·rw [if_pos c11] at H
             have c11b0:decide (0<=x35_3)=true:=decide_eq_true c11
             clear c11
             by_cases c12:x35_3<(l0.length:Int)
             ·rw [if_pos c12] at H
              have c12b0:decide (x35_3<(l0.length:Int))=true:=decide_eq_true c12
              clear c12
              have HC13:=Aside0.mk H
              clear H
              have p302:0<=(x35_3:Int):=of_decide_eq_true (by first | (with_reducible assumption) | assumption)
              have q302:x35_3<(l0.length:Int):=of_decide_eq_true (by first | (with_reducible assumption) | assumption)
              obtain⟨ad302,e302,hx302_0⟩:=Kd.at_int HR0.out x35_3 p302 q302
              obtain rfl:ad301=ad302:=(by injection e302)
              replace hx302_0:=(HB.out.cell (World.block_lt_of_cell? w _ hx302_0)).trans hx302_0
              replace p302:=eq_true p302
              replace q302:=eq_true q302
              go_upto_region 9 with (fail)
              go_cut [59] (fun v59 wc=>∃ (kq:Nat) (x59_12:Bool),v59=.bool x59_12/\Aside0 (spec_qrAlign.j3 kq l0 a1 a2 (wrap64 ((l0.length:Int)-1)) x18_1 (rd l0 x18_1) (rd l0 x35_3) l0 (l0.length:Int) x18_1 l0 (l0.length:Int) x35_3 x59_12=some r)/\Aside0 (kq<=k3)/\Aside0 (Below w.heap.size w wc))
              case first=>
               have H:=HC13.out
               clear HC13
               by_cases c14:x18_1=0
               ·rw [if_pos c14] at H
                have c14b0:(x18_1==0)=true:=beq_iff_eq.mpr c14
                have c14b1:(x18_1 != 0)=false:=bne_eq_false_iff_eq.mpr c14
                clear c14
                (first | rw [c14b0] | (simp only [i64_w,i32_w];rw [c14b0]) | skip)
                by_cases c15:x35_3=0
                ·rw [if_pos c15] at H
                 have c15b0:(x35_3==0)=true:=beq_iff_eq.mpr c15
                 have c15b1:(x35_3 != 0)=false:=bne_eq_false_iff_eq.mpr c15
                 clear c15
                 have H':=Aside0.mk H
                 clear H
                 go_wp2
                 go_meet
                 case rel=>exact⟨_,(true),(by first | rfl | (simp;done) | (simp [*];done)),H',⟨by have:=HK1.out;have:=HJ6.out;have:=HK3.out;first | omega | exact Nat.le_refl _⟩,⟨by repeat (first | (with_reducible first | exact HB.out | apply below_alloc | apply pw_below_drewN | apply below_drew1) | exact HB.out)⟩⟩
                ·rw [if_neg c15] at H
                 have c15b0:(x35_3==0)=false:=beq_eq_false_iff_ne.mpr c15
                 have c15b1:(x35_3 != 0)=true:=bne_iff_ne.mpr c15
                 by_cases c16:x35_3=(wrap64 ((l0.length:Int)-1))
                 ·rw [if_pos c16] at H
                  have c16b0:(x35_3==(wrap64 ((l0.length:Int)-1)))=true:=beq_iff_eq.mpr c16
                  have c16b1:(x35_3 != (wrap64 ((l0.length:Int)-1)))=false:=bne_eq_false_iff_eq.mpr c16
                  clear c16
                  have H':=Aside0.mk H
                  clear H
                  go_wp2
                  go_meet
                  case rel=>exact⟨_,(true),(by first | rfl | (simp;done) | (simp [*];done)),H',⟨by have:=HK1.out;have:=HJ6.out;have:=HK3.out;first | omega | exact Nat.le_refl _⟩,⟨by repeat (first | (with_reducible first | exact HB.out | apply below_alloc | apply pw_below_drewN | apply below_drew1) | exact HB.out)⟩⟩
                 ·rw [if_neg c16] at H
                  have c16b0:(x35_3==(wrap64 ((l0.length:Int)-1)))=false:=beq_eq_false_iff_ne.mpr c16
                  have c16b1:(x35_3 != (wrap64 ((l0.length:Int)-1)))=true:=bne_iff_ne.mpr c16
                  by_cases c17:x18_1=(wrap64 ((l0.length:Int)-1))
                  ·rw [if_pos c17] at H
                   have c17b0:(x18_1==(wrap64 ((l0.length:Int)-1)))=true:=beq_iff_eq.mpr c17
                   have c17b1:(x18_1 != (wrap64 ((l0.length:Int)-1)))=false:=bne_eq_false_iff_eq.mpr c17
                   clear c17
                   have H':=Aside0.mk H
                   clear H
                   go_wp2
                   go_meet
                   case rel=>exact⟨_,((x35_3==0)),(by first | rfl | (simp;done) | (simp [*];done)),H',⟨by have:=HK1.out;have:=HJ6.out;have:=HK3.out;first | omega | exact Nat.le_refl _⟩,⟨by repeat (first | (with_reducible first | exact HB.out | apply below_alloc | apply pw_below_drewN | apply below_drew1) | exact HB.out)⟩⟩
                  ·rw [if_neg c17] at H
                   have c17b0:(x18_1==(wrap64 ((l0.length:Int)-1)))=false:=beq_eq_false_iff_ne.mpr c17
                   have c17b1:(x18_1 != (wrap64 ((l0.length:Int)-1)))=true:=bne_iff_ne.mpr c17
                   have H':=Aside0.mk H
                   clear H
                   go_wp2
                   go_meet
                   case rel=>exact⟨_,(false),(by first | rfl | (simp;done) | (simp [*];done)),H',⟨by have:=HK1.out;have:=HJ6.out;have:=HK3.out;first | omega | exact Nat.le_refl _⟩,⟨by repeat (first | (with_reducible first | exact HB.out | apply below_alloc | apply pw_below_drewN | apply below_drew1) | exact HB.out)⟩⟩
               ·rw [if_neg c14] at H
                have c14b0:(x18_1==0)=false:=beq_eq_false_iff_ne.mpr c14
                have c14b1:(x18_1 != 0)=true:=bne_iff_ne.mpr c14
                (first | rw [c14b0] | (simp only [i64_w,i32_w];rw [c14b0]) | skip)
                by_cases c18:x18_1=(wrap64 ((l0.length:Int)-1))
                ·rw [if_pos c18] at H
                 have c18b0:(x18_1==(wrap64 ((l0.length:Int)-1)))=true:=beq_iff_eq.mpr c18
                 have c18b1:(x18_1 != (wrap64 ((l0.length:Int)-1)))=false:=bne_eq_false_iff_eq.mpr c18
                 clear c18
                 have H':=Aside0.mk H
                 clear H
                 go_wp2
                 go_meet
                 case rel=>exact⟨_,((x35_3==0)),(by first | rfl | (simp;done) | (simp [*];done)),H',⟨by have:=HK1.out;have:=HJ6.out;have:=HK3.out;first | omega | exact Nat.le_refl _⟩,⟨by repeat (first | (with_reducible first | exact HB.out | apply below_alloc | apply pw_below_drewN | apply below_drew1) | exact HB.out)⟩⟩
                ·rw [if_neg c18] at H
                 have c18b0:(x18_1==(wrap64 ((l0.length:Int)-1)))=false:=beq_eq_false_iff_ne.mpr c18
                 have c18b1:(x18_1 != (wrap64 ((l0.length:Int)-1)))=true:=bne_iff_ne.mpr c18
                 have H':=Aside0.mk H
                 clear H
                 go_wp2
                 go_meet
                 case rel=>exact⟨_,(false),(by first | rfl | (simp;done) | (simp [*];done)),H',⟨by have:=HK1.out;have:=HJ6.out;have:=HK3.out;first | omega | exact Nat.le_refl _⟩,⟨by repeat (first | (with_reducible first | exact HB.out | apply below_alloc | apply pw_below_drewN | apply below_drew1) | exact HB.out)⟩⟩
              case rest=>
               clear HC13
               try clear c1
               try clear p2
               try clear p3
               try clear q3
               try clear hx3
               try clear c4
               try clear c4b0
               try clear c5
               try clear c5b0
               try clear c6
               try clear c6b0
               try clear p6
               try clear c8
               try clear c8b0
               try clear c9
               try clear c10
               try clear c10b0
               try clear c11
               try clear c11b0
               try clear c12
               try clear c12b0
               try clear c14
               try clear c14b0
               try clear c14b1
               try clear c15
               try clear c15b0
               try clear c15b1
               try clear c16
               try clear c16b0
               try clear c16b1
               try clear c17
               try clear c17b0
               try clear c17b1
               try clear c18
               try clear c18b0
               try clear c18b1
               try clear hx301_0
               try clear hx302_0
               try clear p2
               try clear p3
               try clear p301
               try clear p302
               try clear p6
               try clear q3
               try clear q301
               try clear q302
               obtain⟨kq,x59_12,rfl,HA,HJ12,HB⟩:=hcut
               cases kq with
               | zero=>exact absurd HA.out (by simp [spec_qrAlign.j3])
               | succ kj12=>
                have H:=HA.out
                clear HA
                simp only [spec_qrAlign.j3] at H
                by_cases c19:x59_12=true
                ·subst c19
                 have H1:(spec_qrAlign.l1 kj12 l0 a1 a2 (wrap64 ((l0.length:Int)-1)) x18_1 (rd l0 x18_1) l0 (l0.length:Int) x18_1 l0 (l0.length:Int) (wrap64 (x35_3+1)))=some r:=by rw [if_pos rfl] at H;exact H
                 clear H
                 have H:=H1
                 clear H1
                 have H':=Aside0.mk H
                 clear H
                 go_wp2
                 go_roundg kj12
                 case measure=>have:=HK1.out;have:=HJ6.out;have:=HK3.out;have:=HJ12.out;omega
                 case rel=>exact⟨(wrap64 (x35_3+1)),(by first | rfl | (simp;done) | (simp [*];done)),H',⟨by have:=HK1.out;have:=HJ6.out;have:=HK3.out;have:=HJ12.out;omega⟩,⟨by repeat (first | (with_reducible first | exact HB.out | apply below_alloc | apply pw_below_drewN | apply below_drew1) | exact HB.out)⟩⟩
                ·replace c19:=Bool.eq_false_iff.mpr c19
                 subst c19
                 have H1:((spec_qrFar.f a1 a2 (rd l0 x18_1) (rd l0 x35_3)).bind fun t303=>(if t303<=2 then (some t303) else (spec_qrAlign.l1 kj12 l0 a1 a2 (wrap64 ((l0.length:Int)-1)) x18_1 (rd l0 x18_1) l0 (l0.length:Int) x18_1 l0 (l0.length:Int) (wrap64 (x35_3+1)))))=some r:=by rw [if_neg (show ¬ (false=true) by decide)] at H;exact H
                 clear H
                 have H:=H1
                 clear H1
                 replace H:=Option.bind_eq_some_iff.mp H
                 obtain⟨t303,A200,H⟩:=H
                 replace H:(if t303<=2 then (some t303) else (spec_qrAlign.l1 kj12 l0 a1 a2 (wrap64 ((l0.length:Int)-1)) x18_1 (rd l0 x18_1) l0 (l0.length:Int) x18_1 l0 (l0.length:Int) (wrap64 (x35_3+1))))=some r:=H
                 have A20:=Aside0.mk A200
                 clear A200
                 by_cases c21:t303<=2
                 ·rw [if_pos c21] at H
                  have c21b0:decide (t303<=2)=true:=decide_eq_true c21
                  clear c21
                  obtain rfl:=Option.some.inj H
                  go_wp2_with (first | ((with_reducible refine gate_callee (f:=98) rfl ?_);refine goesL_ (some 64) rfl rfl Tryz.func98 (by kernel_rfl) rfl #[.int .i64 a1,.int .i64 a2,.int .i64 (rd l0 x18_1),.int .i64 (rd l0 x35_3)] rfl (by (try simp only [List.map_toArray,List.map_cons,List.map_nil]);first | done | rfl | (simp only [List.length_drop,List.length_take];rfl)) ?_;(with_reducible refine (spec_qrFar.calls a1 a2 (rd l0 x18_1) (rd l0 x35_3) t303 _ A20.out).mono ?_);rintro e w22 ⟨rfl,hb⟩;refine⟨_,rfl,?_⟩;have n0_:=Aside0.mk (below_step (by repeat (first | (with_reducible first | exact HB.out | apply below_alloc | apply pw_below_drewN | apply below_drew1) | exact HB.out)) hb);clear HB;have HB:=n0_;clear n0_;(try clear hb);(try clear hb2);(try clear hk);(try clear hi)))
                  go_ret
                  exact⟨by first | rfl | (simp [errW_none,errW_some]<;>rfl) | (simp [*,errW_none,errW_some]<;>rfl),by repeat (first | (with_reducible first | exact HB.out | apply below_alloc | apply pw_below_drewN | apply below_drew1) | exact HB.out)⟩
                 ·rw [if_neg c21] at H
                  have c21b0:decide (t303<=2)=false:=decide_eq_false c21
                  clear c21
                  have H':=Aside0.mk H
                  clear H
                  go_wp2_with (first | ((with_reducible refine gate_callee (f:=98) rfl ?_);refine goesL_ (some 64) rfl rfl Tryz.func98 (by kernel_rfl) rfl #[.int .i64 a1,.int .i64 a2,.int .i64 (rd l0 x18_1),.int .i64 (rd l0 x35_3)] rfl (by (try simp only [List.map_toArray,List.map_cons,List.map_nil]);first | done | rfl | (simp only [List.length_drop,List.length_take];rfl)) ?_;(with_reducible refine (spec_qrFar.calls a1 a2 (rd l0 x18_1) (rd l0 x35_3) t303 _ A20.out).mono ?_);rintro e w23 ⟨rfl,hb⟩;refine⟨_,rfl,?_⟩;have n0_:=Aside0.mk (below_step (by repeat (first | (with_reducible first | exact HB.out | apply below_alloc | apply pw_below_drewN | apply below_drew1) | exact HB.out)) hb);clear HB;have HB:=n0_;clear n0_;(try clear hb);(try clear hb2);(try clear hk);(try clear hi)))
                  go_roundg kj12
                  case measure=>have:=HK1.out;have:=HJ6.out;have:=HK3.out;have:=HJ12.out;omega
                  case rel=>exact⟨(wrap64 (x35_3+1)),(by first | rfl | (simp;done) | (simp [*];done)),H',⟨by have:=HK1.out;have:=HJ6.out;have:=HK3.out;have:=HJ12.out;omega⟩,⟨by repeat (first | (with_reducible first | exact HB.out | apply below_alloc | apply pw_below_drewN | apply below_drew1) | exact HB.out)⟩⟩
             ·rw [if_neg c12] at H
              exact absurd H (by simp)
            ·rw [if_neg c11] at H
             exact absurd H (by simp)
           ·rw [if_neg c10] at H
            have c10b0:decide (x35_3<(l0.length:Int))=false:=decide_eq_false c10
            clear c10
            have H':=Aside0.mk H
            clear H
            go_wp2
            go_roundg k3
            case measure=>have:=HK1.out;have:=HJ6.out;have:=HK3.out;omega
            case rel=>exact⟨(wrap64 (x18_1+1)),(by first | rfl | (simp;done) | (simp [*];done)),H',⟨by have:=HK1.out;have:=HJ6.out;have:=HK3.out;omega⟩,⟨by repeat (first | (with_reducible first | exact HB.out | apply below_alloc | apply pw_below_drewN | apply below_drew1) | exact HB.out)⟩⟩
     ·rw [if_neg c6] at H
      exact absurd H (by simp)
    ·rw [if_neg c5] at H
     exact absurd H (by simp)
   ·rw [if_neg c4] at H
    have c4b0:decide (x18_1<(l0.length:Int))=false:=decide_eq_false c4
    clear c4
    obtain rfl:=Option.some.inj H
    go_wp2
    go_ret
    exact⟨by first | rfl | (simp [errW_none,errW_some]<;>rfl) | (simp [*,errW_none,errW_some]<;>rfl),by repeat (first | (with_reducible first | exact HB.out | apply below_alloc | apply pw_below_drewN | apply below_drew1) | exact HB.out)⟩
end Go.Proofs.YtgccjgpdjkhpdaaGreat.F
namespace Go.Proofs.YtgccjgpdjkhpdaaGreat.F
open Go.RowKit Go.Proofs.YtgccjgpdjkhpdaaGreatW.PrintWords Go.Proofs.YtgccjgpdjkhpdaaGreatW.PrintLast Go.Proofs.YtgccjgpdjkhpdaaGreatW.PrintMore
attribute [local go_sem] max2_int min2_int max_two min_two max_three min_three max_four min_four
set_option linter.unusedVariables false
set_option linter.unusedSimpArgs false
mutual
def spec_qrGiven.j0:Nat->Int->List Int->Int->Int->Int->Bool->Option (Bool)
 | 0,_,_,_,_,_,_=>none
 | k+1,x0,x1,x2,x3,x9,x12=>if x12=true then (spec_qrGiven.j2 k x0 x1 x2 x3 x9 x12) else (if x2≥(wrap64 (x9-8)) then (spec_qrGiven.j1 k x0 x1 x2 x3 x9 (decide (x3<=8))) else (spec_qrGiven.j1 k x0 x1 x2 x3 x9 false))
def spec_qrGiven.j2:Nat->Int->List Int->Int->Int->Int->Bool->Option (Bool)
 | 0,_,_,_,_,_,_=>none
 | k+1,x0,x1,x2,x3,x9,x12=>if x12=true then (some true) else (if x0≥7 then (if x2<=5 then (if x3≥(wrap64 (x9-11)) then (some true) else (if x3<=5 then (if x2≥(wrap64 (x9-11)) then (some true) else ((spec_qrAlign.f k x1 x2 x3).bind fun t305=>(some (decide (t305≥0))))) else ((spec_qrAlign.f k x1 x2 x3).bind fun t306=>(some (decide (t306≥0)))))) else (if x3<=5 then (if x2≥(wrap64 (x9-11)) then (some true) else ((spec_qrAlign.f k x1 x2 x3).bind fun t307=>(some (decide (t307≥0))))) else ((spec_qrAlign.f k x1 x2 x3).bind fun t308=>(some (decide (t308≥0)))))) else ((spec_qrAlign.f k x1 x2 x3).bind fun t309=>(some (decide (t309≥0)))))
def spec_qrGiven.j1:Nat->Int->List Int->Int->Int->Int->Bool->Option (Bool)
 | 0,_,_,_,_,_,_=>none
 | k+1,x0,x1,x2,x3,x9,x12=>if x12=true then (spec_qrGiven.j2 k x0 x1 x2 x3 x9 x12) else (if x2=6 then (spec_qrGiven.j2 k x0 x1 x2 x3 x9 (x2==6)) else (spec_qrGiven.j2 k x0 x1 x2 x3 x9 (x3==6)))
end
def spec_qrGiven.f (k:Nat)(a0:Int)(l1:List Int)(a2:Int)(a3:Int):Option (Bool):=(spec_QRDimension.f a0).bind fun t304=>(if a2<=8 then (if a3<=8 then (spec_qrGiven.j0 k a0 l1 a2 a3 t304 true) else (spec_qrGiven.j0 k a0 l1 a2 a3 t304 (decide (a3≥(wrap64 (t304-8)))))) else (spec_qrGiven.j0 k a0 l1 a2 a3 t304 false))
theorem spec_qrGiven.mono_l:∀ k,(∀ y0 y1 y2 y3 y4 y5,LeO (spec_qrGiven.j0 k y0 y1 y2 y3 y4 y5) (spec_qrGiven.j0 (k+1) y0 y1 y2 y3 y4 y5))/\(∀ y0 y1 y2 y3 y4 y5,LeO (spec_qrGiven.j2 k y0 y1 y2 y3 y4 y5) (spec_qrGiven.j2 (k+1) y0 y1 y2 y3 y4 y5))/\(∀ y0 y1 y2 y3 y4 y5,LeO (spec_qrGiven.j1 k y0 y1 y2 y3 y4 y5) (spec_qrGiven.j1 (k+1) y0 y1 y2 y3 y4 y5))
 | 0=>⟨fun _ _ _ _ _ _ r h=>by simp [spec_qrGiven.j0] at h,fun _ _ _ _ _ _ r h=>by simp [spec_qrGiven.j2] at h,fun _ _ _ _ _ _ r h=>by simp [spec_qrGiven.j1] at h⟩
 | k+1=>by
  obtain⟨ih0,ih1,ih2⟩:=spec_qrGiven.mono_l k
  refine⟨?_,?_,?_⟩
  ·intro y0 y1 y2 y3 y4 y5
   unfold spec_qrGiven.j0
   repeat' first
   | (with_reducible exact ih0 _ _ _ _ _ _)
   | (with_reducible exact ih1 _ _ _ _ _ _)
   | (with_reducible exact ih2 _ _ _ _ _ _)
   | (with_reducible exact spec_qrAlign.mono _ _ _ _)
   | (with_reducible exact LeO.refl _)
   | (with_reducible exact LeO.none _)
   | (with_reducible refine LeO.ite ?_ ?_)
   | (with_reducible refine LeO.bind ?_ (fun _=>?_))
   | exact ih0 _ _ _ _ _ _
   | exact ih1 _ _ _ _ _ _
   | exact ih2 _ _ _ _ _ _
   | exact spec_qrAlign.mono _ _ _ _
   | exact LeO.none _
   | refine LeO.ite ?_ ?_
   | refine LeO.bind ?_ (fun _=>?_)
  ·intro y0 y1 y2 y3 y4 y5
   unfold spec_qrGiven.j2
   repeat' first
   | (with_reducible exact ih0 _ _ _ _ _ _)
   | (with_reducible exact ih1 _ _ _ _ _ _)
   | (with_reducible exact ih2 _ _ _ _ _ _)
   | (with_reducible exact spec_qrAlign.mono _ _ _ _)
   | (with_reducible exact LeO.refl _)
   | (with_reducible exact LeO.none _)
   | (with_reducible refine LeO.ite ?_ ?_)
   | (with_reducible refine LeO.bind ?_ (fun _=>?_))
   | exact ih0 _ _ _ _ _ _
   | exact ih1 _ _ _ _ _ _
   | exact ih2 _ _ _ _ _ _
   | exact spec_qrAlign.mono _ _ _ _
   | exact LeO.none _
   | refine LeO.ite ?_ ?_
   | refine LeO.bind ?_ (fun _=>?_)
  ·intro y0 y1 y2 y3 y4 y5
   unfold spec_qrGiven.j1
   repeat' first
   | (with_reducible exact ih0 _ _ _ _ _ _)
   | (with_reducible exact ih1 _ _ _ _ _ _)
   | (with_reducible exact ih2 _ _ _ _ _ _)
   | (with_reducible exact spec_qrAlign.mono _ _ _ _)
   | (with_reducible exact LeO.refl _)
   | (with_reducible exact LeO.none _)
   | (with_reducible refine LeO.ite ?_ ?_)
   | (with_reducible refine LeO.bind ?_ (fun _=>?_))
   | exact ih0 _ _ _ _ _ _
   | exact ih1 _ _ _ _ _ _
   | exact ih2 _ _ _ _ _ _
   | exact spec_qrAlign.mono _ _ _ _
   | exact LeO.none _
   | refine LeO.ite ?_ ?_
   | refine LeO.bind ?_ (fun _=>?_)
theorem spec_qrGiven.mono:∀ a0 a1 a2 a3 k,LeO (spec_qrGiven.f k a0 a1 a2 a3) (spec_qrGiven.f (k+1) a0 a1 a2 a3):=by
 intro a0 a1 a2 a3 k
 obtain⟨ih0,ih1,ih2⟩:=spec_qrGiven.mono_l k
 unfold spec_qrGiven.f
 repeat' first
   | (with_reducible exact ih0 _ _ _ _ _ _)
   | (with_reducible exact ih1 _ _ _ _ _ _)
   | (with_reducible exact ih2 _ _ _ _ _ _)
   | (with_reducible exact spec_qrAlign.mono _ _ _ _)
   | (with_reducible exact LeO.refl _)
   | (with_reducible exact LeO.none _)
   | (with_reducible refine LeO.ite ?_ ?_)
   | (with_reducible refine LeO.bind ?_ (fun _=>?_))
   | exact ih0 _ _ _ _ _ _
   | exact ih1 _ _ _ _ _ _
   | exact ih2 _ _ _ _ _ _
   | exact spec_qrAlign.mono _ _ _ _
   | exact LeO.none _
   | refine LeO.ite ?_ ?_
   | refine LeO.bind ?_ (fun _=>?_)
set_option maxHeartbeats 8000000 in
set_option maxRecDepth 100000 in
theorem spec_qrGiven.calls (k:Nat)(a0:Int)(A1:Option Addr)(c1:Nat)(l1:List Int)(a2:Int)(a3:Int)(r:Bool)(w:World)(hr1:Kd.C (Kd.int .i64) w A1 l1.length l1)(hc1:l1.length<=c1)(h:spec_qrGiven.f k a0 l1 a2 a3=some r) :
  Calls Tryz.prog 49 #[.int .i64 a0,.slice A1 l1.length c1,.int .i64 a2,.int .i64 a3] w fun e w'=>e=.returned (.bool r)/\Below w.heap.size w w':=by
 have HR1:=Aside0.mk hr1
 have HC1:=Aside0.mk hc1
 clear hr1 hc1
 have HB:=Aside0.mk (Below.refl w.heap.size w)
 have H:((spec_QRDimension.f a0).bind fun t304=>(if a2<=8 then (if a3<=8 then (spec_qrGiven.j0 k a0 l1 a2 a3 t304 true) else (spec_qrGiven.j0 k a0 l1 a2 a3 t304 (decide (a3≥(wrap64 (t304-8)))))) else (spec_qrGiven.j0 k a0 l1 a2 a3 t304 false)))=some r:=h
 clear h
 replace H:=Option.bind_eq_some_iff.mp H
 obtain⟨t304,A50,H⟩:=H
 replace H:(if a2<=8 then (if a3<=8 then (spec_qrGiven.j0 k a0 l1 a2 a3 t304 true) else (spec_qrGiven.j0 k a0 l1 a2 a3 t304 (decide (a3≥(wrap64 (t304-8)))))) else (spec_qrGiven.j0 k a0 l1 a2 a3 t304 false))=some r:=H
 have A5:=Aside0.mk A50
 clear A50
 have HC6:=Aside0.mk H
 clear H
 go_enter Tryz.func49,Tryz.ntmps49
 go_upto_region 2 with (first | ((with_reducible refine gate_callee (f:=46) rfl ?_);refine goesL_ (some 11) rfl rfl Tryz.func46 (by kernel_rfl) rfl #[.int .i64 a0] rfl (by (try simp only [List.map_toArray,List.map_cons,List.map_nil]);first | done | rfl | (simp only [List.length_drop,List.length_take];rfl)) ?_;(with_reducible refine (spec_QRDimension.calls a0 t304 _ A5.out).mono ?_);rintro e w' ⟨rfl,⟨nd,rfl⟩⟩;refine⟨_,rfl,?_⟩))
 (try simp only [Act.put,List.setIfInBounds_toArray,List.set_cons_zero,List.set_cons_succ])
 go_cut [12] (fun v12 wc=>∃ (kq:Nat) (x12_5:Bool),v12=.bool x12_5/\Aside0 (spec_qrGiven.j0 kq a0 l1 a2 a3 t304 x12_5=some r)/\Aside0 (kq<=k)/\Aside0 (Below w.heap.size w wc))
 case first=>
  have H:=HC6.out
  clear HC6
  by_cases c7:a2<=8
  ·rw [if_pos c7] at H
   have c7b0:decide (a2<=8)=true:=decide_eq_true c7
   clear c7
   (first | rw [c7b0] | (simp only [i64_w,i32_w];rw [c7b0]) | skip)
   by_cases c8:a3<=8
   ·rw [if_pos c8] at H
    have c8b0:decide (a3<=8)=true:=decide_eq_true c8
    clear c8
    have H':=Aside0.mk H
    clear H
    go_wp2
    go_meet
    case rel=>exact⟨_,(true),(by first | rfl | (simp;done) | (simp [*];done)),H',⟨by first | omega | exact Nat.le_refl _⟩,⟨by repeat (first | (with_reducible first | exact HB.out | apply below_alloc | apply pw_below_drewN | apply below_drew1) | exact HB.out)⟩⟩
   ·rw [if_neg c8] at H
    have c8b0:decide (a3<=8)=false:=decide_eq_false c8
    clear c8
    have H':=Aside0.mk H
    clear H
    go_wp2
    go_meet
    case rel=>exact⟨_,(decide (a3≥(wrap64 (t304-8)))),(by first | rfl | (simp;done) | (simp [*];done)),H',⟨by first | omega | exact Nat.le_refl _⟩,⟨by repeat (first | (with_reducible first | exact HB.out | apply below_alloc | apply pw_below_drewN | apply below_drew1) | exact HB.out)⟩⟩
  ·rw [if_neg c7] at H
   have c7b0:decide (a2<=8)=false:=decide_eq_false c7
   clear c7
   (first | rw [c7b0] | (simp only [i64_w,i32_w];rw [c7b0]) | skip)
   have H':=Aside0.mk H
   clear H
   go_wp2
   go_meet
   case rel=>exact⟨_,(false),(by first | rfl | (simp;done) | (simp [*];done)),H',⟨by first | omega | exact Nat.le_refl _⟩,⟨by repeat (first | (with_reducible first | exact HB.out | apply below_alloc | apply pw_below_drewN | apply below_drew1) | exact HB.out)⟩⟩
 case rest=>
  clear HC6
  try clear c1
  try clear p2
  try clear c4
  try clear p6
  try clear c7
  try clear c7b0
  try clear c8
  try clear c8b0
  obtain⟨kq,x12_5,rfl,HA,HJ5,HB⟩:=hcut
  cases kq with
  | zero=>exact absurd HA.out (by simp [spec_qrGiven.j0])
  | succ kj5=>
   have H:=HA.out
   clear HA
   simp only [spec_qrGiven.j0] at H
   have HC9:=Aside0.mk H
   clear H
   go_upto_if 12 with (fail)
   go_cut [12] (fun v12 wc=>∃ (kq:Nat) (x12_8:Bool),v12=.bool x12_8/\Aside0 (spec_qrGiven.j2 kq a0 l1 a2 a3 t304 x12_8=some r)/\Aside0 (kq<=kj5)/\Aside0 (Below w.heap.size w wc))
   case first=>
    have H:=HC9.out
    clear HC9
    by_cases c10:x12_5=true
    ·subst c10
     have H1:(spec_qrGiven.j2 kj5 a0 l1 a2 a3 t304 true)=some r:=by rw [if_pos rfl] at H;exact H
     clear H
     have H:=H1
     clear H1
     have H':=Aside0.mk H
     clear H
     go_wp2
     go_meet
     case rel=>exact⟨_,(true),(by first | rfl | (simp;done) | (simp [*];done)),H',⟨by have:=HJ5.out;first | omega | exact Nat.le_refl _⟩,⟨by repeat (first | (with_reducible first | exact HB.out | apply below_alloc | apply pw_below_drewN | apply below_drew1) | exact HB.out)⟩⟩
    ·replace c10:=Bool.eq_false_iff.mpr c10
     subst c10
     have H1:(if a2≥(wrap64 (t304-8)) then (spec_qrGiven.j1 kj5 a0 l1 a2 a3 t304 (decide (a3<=8))) else (spec_qrGiven.j1 kj5 a0 l1 a2 a3 t304 false))=some r:=by rw [if_neg (show ¬ (false=true) by decide)] at H;exact H
     clear H
     have H:=H1
     clear H1
     have HC11:=Aside0.mk H
     clear H
     go_upto_region 3 with (fail)
     go_cut [12] (fun v12 wc=>∃ (kq:Nat) (x12_10:Bool),v12=.bool x12_10/\Aside0 (spec_qrGiven.j1 kq a0 l1 a2 a3 t304 x12_10=some r)/\Aside0 (kq<=kj5)/\Aside0 (Below w.heap.size w wc))
     case first=>
      have H:=HC11.out
      clear HC11
      by_cases c12:a2≥(wrap64 (t304-8))
      ·rw [if_pos c12] at H
       have c12b0:decide ((wrap64 (t304-8))<=a2)=true:=decide_eq_true c12
       clear c12
       (first | rw [c12b0] | (simp only [i64_w,i32_w];rw [c12b0]) | skip)
       have H':=Aside0.mk H
       clear H
       go_wp2
       go_meet
       case rel=>exact⟨_,(decide (a3<=8)),(by first | rfl | (simp;done) | (simp [*];done)),H',⟨by have:=HJ5.out;first | omega | exact Nat.le_refl _⟩,⟨by repeat (first | (with_reducible first | exact HB.out | apply below_alloc | apply pw_below_drewN | apply below_drew1) | exact HB.out)⟩⟩
      ·rw [if_neg c12] at H
       have c12b0:decide ((wrap64 (t304-8))<=a2)=false:=decide_eq_false c12
       clear c12
       (first | rw [c12b0] | (simp only [i64_w,i32_w];rw [c12b0]) | skip)
       have H':=Aside0.mk H
       clear H
       go_wp2
       go_meet
       case rel=>exact⟨_,(false),(by first | rfl | (simp;done) | (simp [*];done)),H',⟨by have:=HJ5.out;first | omega | exact Nat.le_refl _⟩,⟨by repeat (first | (with_reducible first | exact HB.out | apply below_alloc | apply pw_below_drewN | apply below_drew1) | exact HB.out)⟩⟩
     case rest=>
      clear HC11
      try clear c1
      try clear p2
      try clear c4
      try clear p6
      try clear c7
      try clear c7b0
      try clear c8
      try clear c8b0
      try clear c10
      try clear c12
      try clear c12b0
      try clear p2
      try clear p6
      obtain⟨kq,x12_10,rfl,HA,HJ10,HB⟩:=hcut
      cases kq with
      | zero=>exact absurd HA.out (by simp [spec_qrGiven.j1])
      | succ kj10=>
       have H:=HA.out
       clear HA
       simp only [spec_qrGiven.j1] at H
       by_cases c13:x12_10=true
       ·subst c13
        have H1:(spec_qrGiven.j2 kj10 a0 l1 a2 a3 t304 true)=some r:=by rw [if_pos rfl] at H;exact H
        clear H
        have H:=H1
        clear H1
        have H':=Aside0.mk H
        clear H
        go_wp2
        go_meet
        case rel=>exact⟨_,(true),(by first | rfl | (simp;done) | (simp [*];done)),H',⟨by have:=HJ5.out;have:=HJ10.out;first | omega | exact Nat.le_refl _⟩,⟨by repeat (first | (with_reducible first | exact HB.out | apply below_alloc | apply pw_below_drewN | apply below_drew1) | exact HB.out)⟩⟩
       ·replace c13:=Bool.eq_false_iff.mpr c13
        subst c13
        have H1:(if a2=6 then (spec_qrGiven.j2 kj10 a0 l1 a2 a3 t304 (a2==6)) else (spec_qrGiven.j2 kj10 a0 l1 a2 a3 t304 (a3==6)))=some r:=by rw [if_neg (show ¬ (false=true) by decide)] at H;exact H
        clear H
        have H:=H1
        clear H1
        by_cases c14:a2=6
        ·rw [if_pos c14] at H
         have c14b0:(a2==6)=true:=beq_iff_eq.mpr c14
         have c14b1:(a2 != 6)=false:=bne_eq_false_iff_eq.mpr c14
         clear c14
         have H':=Aside0.mk H
         clear H
         go_wp2
         go_meet
         case rel=>exact⟨_,((a2==6)),(by first | rfl | (simp;done) | (simp [*];done)),H',⟨by have:=HJ5.out;have:=HJ10.out;first | omega | exact Nat.le_refl _⟩,⟨by repeat (first | (with_reducible first | exact HB.out | apply below_alloc | apply pw_below_drewN | apply below_drew1) | exact HB.out)⟩⟩
        ·rw [if_neg c14] at H
         have c14b0:(a2==6)=false:=beq_eq_false_iff_ne.mpr c14
         have c14b1:(a2 != 6)=true:=bne_iff_ne.mpr c14
         have H':=Aside0.mk H
         clear H
         go_wp2
         go_meet
         case rel=>exact⟨_,((a3==6)),(by first | rfl | (simp;done) | (simp [*];done)),H',⟨by have:=HJ5.out;have:=HJ10.out;first | omega | exact Nat.le_refl _⟩,⟨by repeat (first | (with_reducible first | exact HB.out | apply below_alloc | apply pw_below_drewN | apply below_drew1) | exact HB.out)⟩⟩
   case rest=>
    clear HC9
    try clear c1
    try clear p2
    try clear c4
    try clear p6
    try clear c7
    try clear c7b0
    try clear c8
    try clear c8b0
    try clear c10
    try clear c12
    try clear c12b0
    try clear c13
    try clear c14
    try clear c14b0
    try clear c14b1
    try clear p2
    try clear p6
    obtain⟨kq,x12_8,rfl,HA,HJ8,HB⟩:=hcut
    cases kq with
    | zero=>exact absurd HA.out (by simp [spec_qrGiven.j2])
    | succ kj8=>
     have H:=HA.out
     clear HA
     simp only [spec_qrGiven.j2] at H
     by_cases c15:x12_8=true
     ·subst c15
      have H1:(some true)=some r:=by rw [if_pos rfl] at H;exact H
      clear H
      have H:=H1
      clear H1
      obtain rfl:=Option.some.inj H
      go_wp2
      go_ret
      exact⟨by first | rfl | (simp [errW_none,errW_some]<;>rfl) | (simp [*,errW_none,errW_some]<;>rfl),by repeat (first | (with_reducible first | exact HB.out | apply below_alloc | apply pw_below_drewN | apply below_drew1) | exact HB.out)⟩
     ·replace c15:=Bool.eq_false_iff.mpr c15
      subst c15
      have H1:(if a0≥7 then (if a2<=5 then (if a3≥(wrap64 (t304-11)) then (some true) else (if a3<=5 then (if a2≥(wrap64 (t304-11)) then (some true) else ((spec_qrAlign.f kj8 l1 a2 a3).bind fun t305=>(some (decide (t305≥0))))) else ((spec_qrAlign.f kj8 l1 a2 a3).bind fun t306=>(some (decide (t306≥0)))))) else (if a3<=5 then (if a2≥(wrap64 (t304-11)) then (some true) else ((spec_qrAlign.f kj8 l1 a2 a3).bind fun t307=>(some (decide (t307≥0))))) else ((spec_qrAlign.f kj8 l1 a2 a3).bind fun t308=>(some (decide (t308≥0)))))) else ((spec_qrAlign.f kj8 l1 a2 a3).bind fun t309=>(some (decide (t309≥0)))))=some r:=by rw [if_neg (show ¬ (false=true) by decide)] at H;exact H
      clear H
      have H:=H1
      clear H1
      by_cases c16:a0≥7
      ·rw [if_pos c16] at H
       have c16b0:decide (7<=a0)=true:=decide_eq_true c16
       clear c16
       by_cases c17:a2<=5
       ·rw [if_pos c17] at H
        have c17b0:decide (a2<=5)=true:=decide_eq_true c17
        clear c17
        by_cases c18:a3≥(wrap64 (t304-11))
        ·rw [if_pos c18] at H
         have c18b0:decide ((wrap64 (t304-11))<=a3)=true:=decide_eq_true c18
         clear c18
         obtain rfl:=Option.some.inj H
         go_wp2
         go_ret
         exact⟨by first | rfl | (simp [errW_none,errW_some]<;>rfl) | (simp [*,errW_none,errW_some]<;>rfl),by repeat (first | (with_reducible first | exact HB.out | apply below_alloc | apply pw_below_drewN | apply below_drew1) | exact HB.out)⟩
        ·rw [if_neg c18] at H
         have c18b0:decide ((wrap64 (t304-11))<=a3)=false:=decide_eq_false c18
         clear c18
         by_cases c19:a3<=5
         ·rw [if_pos c19] at H
          have c19b0:decide (a3<=5)=true:=decide_eq_true c19
          clear c19
          by_cases c20:a2≥(wrap64 (t304-11))
          ·rw [if_pos c20] at H
           have c20b0:decide ((wrap64 (t304-11))<=a2)=true:=decide_eq_true c20
           clear c20
           obtain rfl:=Option.some.inj H
           go_wp2
           go_ret
           exact⟨by first | rfl | (simp [errW_none,errW_some]<;>rfl) | (simp [*,errW_none,errW_some]<;>rfl),by repeat (first | (with_reducible first | exact HB.out | apply below_alloc | apply pw_below_drewN | apply below_drew1) | exact HB.out)⟩
          ·rw [if_neg c20] at H
           have c20b0:decide ((wrap64 (t304-11))<=a2)=false:=decide_eq_false c20
           clear c20
           replace H:=Option.bind_eq_some_iff.mp H
           obtain⟨t305,A210,H⟩:=H
           replace H:(some (decide (t305≥0)))=some r:=H
           have A21:=Aside0.mk A210
           clear A210
           obtain rfl:=Option.some.inj H
           go_wp2_with (first | ((with_reducible refine gate_callee (f:=96) rfl ?_);refine goesL_ (some 63) rfl rfl Tryz.func96 (by kernel_rfl) rfl #[.slice A1 l1.length c1,.int .i64 a2,.int .i64 a3] rfl (by (try simp only [List.map_toArray,List.map_cons,List.map_nil]);first | done | rfl | (simp only [List.length_drop,List.length_take];rfl)) ?_;(with_reducible refine (spec_qrAlign.calls kj8 _ _ l1 a2 a3 t305 _ ?side1 ?side2 A21.out).mono ?_);(case side1=>repeat (first | exact (Kd.C_below HR1.out HB.out) | (with_reducible refine Kd.C_alloc ?_ _) | (with_reducible refine Kd.C_drewN ?_ _) | (with_reducible refine Kd.C_drew ?_)));(case side2=>exact HC1.out);rintro e w22 ⟨rfl,hb⟩;refine⟨_,rfl,?_⟩;have n0_:=Aside0.mk (below_step (by repeat (first | (with_reducible first | exact HB.out | apply below_alloc | apply pw_below_drewN | apply below_drew1) | exact HB.out)) hb);clear HB;have HB:=n0_;clear n0_;(try clear hb);(try clear hb2);(try clear hk);(try clear hi)))
           go_ret
           exact⟨by first | rfl | (simp [errW_none,errW_some]<;>rfl) | (simp [*,errW_none,errW_some]<;>rfl),by repeat (first | (with_reducible first | exact HB.out | apply below_alloc | apply pw_below_drewN | apply below_drew1) | exact HB.out)⟩
         ·rw [if_neg c19] at H
          have c19b0:decide (a3<=5)=false:=decide_eq_false c19
          clear c19
          replace H:=Option.bind_eq_some_iff.mp H
          obtain⟨t306,A230,H⟩:=H
          replace H:(some (decide (t306≥0)))=some r:=H
          have A23:=Aside0.mk A230
          clear A230
          obtain rfl:=Option.some.inj H
          go_wp2_with (first | ((with_reducible refine gate_callee (f:=96) rfl ?_);refine goesL_ (some 63) rfl rfl Tryz.func96 (by kernel_rfl) rfl #[.slice A1 l1.length c1,.int .i64 a2,.int .i64 a3] rfl (by (try simp only [List.map_toArray,List.map_cons,List.map_nil]);first | done | rfl | (simp only [List.length_drop,List.length_take];rfl)) ?_;(with_reducible refine (spec_qrAlign.calls kj8 _ _ l1 a2 a3 t306 _ ?side1 ?side2 A23.out).mono ?_);(case side1=>repeat (first | exact (Kd.C_below HR1.out HB.out) | (with_reducible refine Kd.C_alloc ?_ _) | (with_reducible refine Kd.C_drewN ?_ _) | (with_reducible refine Kd.C_drew ?_)));(case side2=>exact HC1.out);rintro e w24 ⟨rfl,hb⟩;refine⟨_,rfl,?_⟩;have n0_:=Aside0.mk (below_step (by repeat (first | (with_reducible first | exact HB.out | apply below_alloc | apply pw_below_drewN | apply below_drew1) | exact HB.out)) hb);clear HB;have HB:=n0_;clear n0_;(try clear hb);(try clear hb2);(try clear hk);(try clear hi)))
          go_ret
          exact⟨by first | rfl | (simp [errW_none,errW_some]<;>rfl) | (simp [*,errW_none,errW_some]<;>rfl),by repeat (first | (with_reducible first | exact HB.out | apply below_alloc | apply pw_below_drewN | apply below_drew1) | exact HB.out)⟩
       ·rw [if_neg c17] at H
        have c17b0:decide (a2<=5)=false:=decide_eq_false c17
        clear c17
        by_cases c25:a3<=5
        ·rw [if_pos c25] at H
         have c25b0:decide (a3<=5)=true:=decide_eq_true c25
         clear c25
         by_cases c26:a2≥(wrap64 (t304-11))
         ·rw [if_pos c26] at H
          have c26b0:decide ((wrap64 (t304-11))<=a2)=true:=decide_eq_true c26
          clear c26
          obtain rfl:=Option.some.inj H
          go_wp2
          go_ret
          exact⟨by first | rfl | (simp [errW_none,errW_some]<;>rfl) | (simp [*,errW_none,errW_some]<;>rfl),by repeat (first | (with_reducible first | exact HB.out | apply below_alloc | apply pw_below_drewN | apply below_drew1) | exact HB.out)⟩
         ·rw [if_neg c26] at H
          have c26b0:decide ((wrap64 (t304-11))<=a2)=false:=decide_eq_false c26
          clear c26
          replace H:=Option.bind_eq_some_iff.mp H
          obtain⟨t307,A270,H⟩:=H
          replace H:(some (decide (t307≥0)))=some r:=H
          have A27:=Aside0.mk A270
          clear A270
          obtain rfl:=Option.some.inj H
          go_wp2_with (first | ((with_reducible refine gate_callee (f:=96) rfl ?_);refine goesL_ (some 63) rfl rfl Tryz.func96 (by kernel_rfl) rfl #[.slice A1 l1.length c1,.int .i64 a2,.int .i64 a3] rfl (by (try simp only [List.map_toArray,List.map_cons,List.map_nil]);first | done | rfl | (simp only [List.length_drop,List.length_take];rfl)) ?_;(with_reducible refine (spec_qrAlign.calls kj8 _ _ l1 a2 a3 t307 _ ?side1 ?side2 A27.out).mono ?_);(case side1=>repeat (first | exact (Kd.C_below HR1.out HB.out) | (with_reducible refine Kd.C_alloc ?_ _) | (with_reducible refine Kd.C_drewN ?_ _) | (with_reducible refine Kd.C_drew ?_)));(case side2=>exact HC1.out);rintro e w28 ⟨rfl,hb⟩;refine⟨_,rfl,?_⟩;have n0_:=Aside0.mk (below_step (by repeat (first | (with_reducible first | exact HB.out | apply below_alloc | apply pw_below_drewN | apply below_drew1) | exact HB.out)) hb);clear HB;have HB:=n0_;clear n0_;(try clear hb);(try clear hb2);(try clear hk);(try clear hi)))
          go_ret
          exact⟨by first | rfl | (simp [errW_none,errW_some]<;>rfl) | (simp [*,errW_none,errW_some]<;>rfl),by repeat (first | (with_reducible first | exact HB.out | apply below_alloc | apply pw_below_drewN | apply below_drew1) | exact HB.out)⟩
        ·rw [if_neg c25] at H
         have c25b0:decide (a3<=5)=false:=decide_eq_false c25
         clear c25
         replace H:=Option.bind_eq_some_iff.mp H
         obtain⟨t308,A290,H⟩:=H
         replace H:(some (decide (t308≥0)))=some r:=H
         have A29:=Aside0.mk A290
         clear A290
         obtain rfl:=Option.some.inj H
         go_wp2_with (first | ((with_reducible refine gate_callee (f:=96) rfl ?_);refine goesL_ (some 63) rfl rfl Tryz.func96 (by kernel_rfl) rfl #[.slice A1 l1.length c1,.int .i64 a2,.int .i64 a3] rfl (by (try simp only [List.map_toArray,List.map_cons,List.map_nil]);first | done | rfl | (simp only [List.length_drop,List.length_take];rfl)) ?_;(with_reducible refine (spec_qrAlign.calls kj8 _ _ l1 a2 a3 t308 _ ?side1 ?side2 A29.out).mono ?_);(case side1=>repeat (first | exact (Kd.C_below HR1.out HB.out) | (with_reducible refine Kd.C_alloc ?_ _) | (with_reducible refine Kd.C_drewN ?_ _) | (with_reducible refine Kd.C_drew ?_)));(case side2=>exact HC1.out);rintro e w30 ⟨rfl,hb⟩;refine⟨_,rfl,?_⟩;have n0_:=Aside0.mk (below_step (by repeat (first | (with_reducible first | exact HB.out | apply below_alloc | apply pw_below_drewN | apply below_drew1) | exact HB.out)) hb);clear HB;have HB:=n0_;clear n0_;(try clear hb);(try clear hb2);(try clear hk);(try clear hi)))
         go_ret
         exact⟨by first | rfl | (simp [errW_none,errW_some]<;>rfl) | (simp [*,errW_none,errW_some]<;>rfl),by repeat (first | (with_reducible first | exact HB.out | apply below_alloc | apply pw_below_drewN | apply below_drew1) | exact HB.out)⟩
      ·rw [if_neg c16] at H
       have c16b0:decide (7<=a0)=false:=decide_eq_false c16
       clear c16
       replace H:=Option.bind_eq_some_iff.mp H
       obtain⟨t309,A310,H⟩:=H
       replace H:(some (decide (t309≥0)))=some r:=H
       have A31:=Aside0.mk A310
       clear A310
       obtain rfl:=Option.some.inj H
       go_wp2_with (first | ((with_reducible refine gate_callee (f:=96) rfl ?_);refine goesL_ (some 63) rfl rfl Tryz.func96 (by kernel_rfl) rfl #[.slice A1 l1.length c1,.int .i64 a2,.int .i64 a3] rfl (by (try simp only [List.map_toArray,List.map_cons,List.map_nil]);first | done | rfl | (simp only [List.length_drop,List.length_take];rfl)) ?_;(with_reducible refine (spec_qrAlign.calls kj8 _ _ l1 a2 a3 t309 _ ?side1 ?side2 A31.out).mono ?_);(case side1=>repeat (first | exact (Kd.C_below HR1.out HB.out) | (with_reducible refine Kd.C_alloc ?_ _) | (with_reducible refine Kd.C_drewN ?_ _) | (with_reducible refine Kd.C_drew ?_)));(case side2=>exact HC1.out);rintro e w32 ⟨rfl,hb⟩;refine⟨_,rfl,?_⟩;have n0_:=Aside0.mk (below_step (by repeat (first | (with_reducible first | exact HB.out | apply below_alloc | apply pw_below_drewN | apply below_drew1) | exact HB.out)) hb);clear HB;have HB:=n0_;clear n0_;(try clear hb);(try clear hb2);(try clear hk);(try clear hi)))
       go_ret
       exact⟨by first | rfl | (simp [errW_none,errW_some]<;>rfl) | (simp [*,errW_none,errW_some]<;>rfl),by repeat (first | (with_reducible first | exact HB.out | apply below_alloc | apply pw_below_drewN | apply below_drew1) | exact HB.out)⟩
end Go.Proofs.YtgccjgpdjkhpdaaGreat.F
namespace Go.Proofs.YtgccjgpdjkhpdaaGreat.F
open Go.RowKit Go.Proofs.YtgccjgpdjkhpdaaGreatW.PrintWords Go.Proofs.YtgccjgpdjkhpdaaGreatW.PrintLast Go.Proofs.YtgccjgpdjkhpdaaGreatW.PrintMore
attribute [local go_sem] max2_int min2_int max_two min_two max_three min_three max_four min_four
set_option linter.unusedVariables false
set_option linter.unusedSimpArgs false
mutual
def spec_qrFormatAt.j0:Nat->Int->Int->Int->Bool->Option (Int)
 | 0,_,_,_,_=>none
 | k+1,x0,x1,x2,x7=>if x7=true then (some x1) else (if x2=8 then (spec_qrFormatAt.j1 k x0 x1 x2 (x1==7)) else (spec_qrFormatAt.j1 k x0 x1 x2 false))
def spec_qrFormatAt.j1:Nat->Int->Int->Int->Bool->Option (Int)
 | 0,_,_,_,_=>none
 | k+1,x0,x1,x2,x15=>if x15=true then (some 6) else (if x2=8 then (spec_qrFormatAt.j2 k x0 x1 x2 (x1==8)) else (spec_qrFormatAt.j2 k x0 x1 x2 false))
def spec_qrFormatAt.j2:Nat->Int->Int->Int->Bool->Option (Int)
 | 0,_,_,_,_=>none
 | k+1,x0,x1,x2,x22=>if x22=true then (some 7) else (if x1=8 then (spec_qrFormatAt.j3 k x0 x1 x2 (x2==7)) else (spec_qrFormatAt.j3 k x0 x1 x2 false))
def spec_qrFormatAt.j3:Nat->Int->Int->Int->Bool->Option (Int)
 | 0,_,_,_,_=>none
 | k+1,x0,x1,x2,x29=>if x29=true then (some 8) else (if x1=8 then (spec_qrFormatAt.j4 k x0 x1 x2 (decide (x2<=5))) else (spec_qrFormatAt.j4 k x0 x1 x2 false))
def spec_qrFormatAt.j4:Nat->Int->Int->Int->Bool->Option (Int)
 | 0,_,_,_,_=>none
 | k+1,x0,x1,x2,x36=>if x36=true then (some (wrap64 (14-x2))) else (if x1=8 then (spec_qrFormatAt.j5 k x0 x1 x2 (decide (x2≥(wrap64 (x0-8))))) else (spec_qrFormatAt.j5 k x0 x1 x2 false))
def spec_qrFormatAt.j5:Nat->Int->Int->Int->Bool->Option (Int)
 | 0,_,_,_,_=>none
 | k+1,x0,x1,x2,x45=>if x45=true then (some (wrap64 ((wrap64 (x0-1))-x2))) else (if x2=8 then (if x1≥(wrap64 (x0-7)) then (some (wrap64 ((wrap64 (x1-x0))+15))) else (some (-1))) else (some (-1)))
end
def spec_qrFormatAt.f (k:Nat)(a0:Int)(a1:Int)(a2:Int):Option (Int):=if a2=8 then (spec_qrFormatAt.j0 k a0 a1 a2 (decide (a1<=5))) else (spec_qrFormatAt.j0 k a0 a1 a2 false)
theorem spec_qrFormatAt.mono_l:∀ k,(∀ y0 y1 y2 y3,LeO (spec_qrFormatAt.j0 k y0 y1 y2 y3) (spec_qrFormatAt.j0 (k+1) y0 y1 y2 y3))/\(∀ y0 y1 y2 y3,LeO (spec_qrFormatAt.j1 k y0 y1 y2 y3) (spec_qrFormatAt.j1 (k+1) y0 y1 y2 y3))/\(∀ y0 y1 y2 y3,LeO (spec_qrFormatAt.j2 k y0 y1 y2 y3) (spec_qrFormatAt.j2 (k+1) y0 y1 y2 y3))/\(∀ y0 y1 y2 y3,LeO (spec_qrFormatAt.j3 k y0 y1 y2 y3) (spec_qrFormatAt.j3 (k+1) y0 y1 y2 y3))/\(∀ y0 y1 y2 y3,LeO (spec_qrFormatAt.j4 k y0 y1 y2 y3) (spec_qrFormatAt.j4 (k+1) y0 y1 y2 y3))/\(∀ y0 y1 y2 y3,LeO (spec_qrFormatAt.j5 k y0 y1 y2 y3) (spec_qrFormatAt.j5 (k+1) y0 y1 y2 y3))
 | 0=>⟨fun _ _ _ _ r h=>by simp [spec_qrFormatAt.j0] at h,fun _ _ _ _ r h=>by simp [spec_qrFormatAt.j1] at h,fun _ _ _ _ r h=>by simp [spec_qrFormatAt.j2] at h,fun _ _ _ _ r h=>by simp [spec_qrFormatAt.j3] at h,fun _ _ _ _ r h=>by simp [spec_qrFormatAt.j4] at h,fun _ _ _ _ r h=>by simp [spec_qrFormatAt.j5] at h⟩
 | k+1=>by
  obtain⟨ih0,ih1,ih2,ih3,ih4,ih5⟩:=spec_qrFormatAt.mono_l k
  refine⟨?_,?_,?_,?_,?_,?_⟩
  ·intro y0 y1 y2 y3
   unfold spec_qrFormatAt.j0
   repeat' first
   | (with_reducible exact ih0 _ _ _ _)
   | (with_reducible exact ih1 _ _ _ _)
   | (with_reducible exact ih2 _ _ _ _)
   | (with_reducible exact ih3 _ _ _ _)
   | (with_reducible exact ih4 _ _ _ _)
   | (with_reducible exact ih5 _ _ _ _)
   | (with_reducible exact LeO.refl _)
   | (with_reducible exact LeO.none _)
   | (with_reducible refine LeO.ite ?_ ?_)
   | (with_reducible refine LeO.bind ?_ (fun _=>?_))
   | exact ih0 _ _ _ _
   | exact ih1 _ _ _ _
   | exact ih2 _ _ _ _
   | exact ih3 _ _ _ _
   | exact ih4 _ _ _ _
   | exact ih5 _ _ _ _
   | exact LeO.none _
   | refine LeO.ite ?_ ?_
   | refine LeO.bind ?_ (fun _=>?_)
  ·intro y0 y1 y2 y3
   unfold spec_qrFormatAt.j1
   repeat' first
   | (with_reducible exact ih0 _ _ _ _)
   | (with_reducible exact ih1 _ _ _ _)
   | (with_reducible exact ih2 _ _ _ _)
   | (with_reducible exact ih3 _ _ _ _)
   | (with_reducible exact ih4 _ _ _ _)
   | (with_reducible exact ih5 _ _ _ _)
   | (with_reducible exact LeO.refl _)
   | (with_reducible exact LeO.none _)
   | (with_reducible refine LeO.ite ?_ ?_)
   | (with_reducible refine LeO.bind ?_ (fun _=>?_))
   | exact ih0 _ _ _ _
   | exact ih1 _ _ _ _
   | exact ih2 _ _ _ _
   | exact ih3 _ _ _ _
   | exact ih4 _ _ _ _
   | exact ih5 _ _ _ _
   | exact LeO.none _
   | refine LeO.ite ?_ ?_
   | refine LeO.bind ?_ (fun _=>?_)
  ·intro y0 y1 y2 y3
   unfold spec_qrFormatAt.j2
   repeat' first
   | (with_reducible exact ih0 _ _ _ _)
   | (with_reducible exact ih1 _ _ _ _)
   | (with_reducible exact ih2 _ _ _ _)
   | (with_reducible exact ih3 _ _ _ _)
   | (with_reducible exact ih4 _ _ _ _)
   | (with_reducible exact ih5 _ _ _ _)
   | (with_reducible exact LeO.refl _)
   | (with_reducible exact LeO.none _)
   | (with_reducible refine LeO.ite ?_ ?_)
   | (with_reducible refine LeO.bind ?_ (fun _=>?_))
   | exact ih0 _ _ _ _
   | exact ih1 _ _ _ _
   | exact ih2 _ _ _ _
   | exact ih3 _ _ _ _
   | exact ih4 _ _ _ _
   | exact ih5 _ _ _ _
   | exact LeO.none _
   | refine LeO.ite ?_ ?_
   | refine LeO.bind ?_ (fun _=>?_)
  ·intro y0 y1 y2 y3
   unfold spec_qrFormatAt.j3
   repeat' first
   | (with_reducible exact ih0 _ _ _ _)
   | (with_reducible exact ih1 _ _ _ _)
   | (with_reducible exact ih2 _ _ _ _)
   | (with_reducible exact ih3 _ _ _ _)
   | (with_reducible exact ih4 _ _ _ _)
   | (with_reducible exact ih5 _ _ _ _)
   | (with_reducible exact LeO.refl _)
   | (with_reducible exact LeO.none _)
   | (with_reducible refine LeO.ite ?_ ?_)
   | (with_reducible refine LeO.bind ?_ (fun _=>?_))
   | exact ih0 _ _ _ _
   | exact ih1 _ _ _ _
   | exact ih2 _ _ _ _
   | exact ih3 _ _ _ _
   | exact ih4 _ _ _ _
   | exact ih5 _ _ _ _
   | exact LeO.none _
   | refine LeO.ite ?_ ?_
   | refine LeO.bind ?_ (fun _=>?_)
  ·intro y0 y1 y2 y3
   unfold spec_qrFormatAt.j4
   repeat' first
   | (with_reducible exact ih0 _ _ _ _)
   | (with_reducible exact ih1 _ _ _ _)
   | (with_reducible exact ih2 _ _ _ _)
   | (with_reducible exact ih3 _ _ _ _)
   | (with_reducible exact ih4 _ _ _ _)
   | (with_reducible exact ih5 _ _ _ _)
   | (with_reducible exact LeO.refl _)
   | (with_reducible exact LeO.none _)
   | (with_reducible refine LeO.ite ?_ ?_)
   | (with_reducible refine LeO.bind ?_ (fun _=>?_))
   | exact ih0 _ _ _ _
   | exact ih1 _ _ _ _
   | exact ih2 _ _ _ _
   | exact ih3 _ _ _ _
   | exact ih4 _ _ _ _
   | exact ih5 _ _ _ _
   | exact LeO.none _
   | refine LeO.ite ?_ ?_
   | refine LeO.bind ?_ (fun _=>?_)
  ·intro y0 y1 y2 y3
   unfold spec_qrFormatAt.j5
   repeat' first
   | (with_reducible exact ih0 _ _ _ _)
   | (with_reducible exact ih1 _ _ _ _)
   | (with_reducible exact ih2 _ _ _ _)
   | (with_reducible exact ih3 _ _ _ _)
   | (with_reducible exact ih4 _ _ _ _)
   | (with_reducible exact ih5 _ _ _ _)
   | (with_reducible exact LeO.refl _)
   | (with_reducible exact LeO.none _)
   | (with_reducible refine LeO.ite ?_ ?_)
   | (with_reducible refine LeO.bind ?_ (fun _=>?_))
   | exact ih0 _ _ _ _
   | exact ih1 _ _ _ _
   | exact ih2 _ _ _ _
   | exact ih3 _ _ _ _
   | exact ih4 _ _ _ _
   | exact ih5 _ _ _ _
   | exact LeO.none _
   | refine LeO.ite ?_ ?_
   | refine LeO.bind ?_ (fun _=>?_)
theorem spec_qrFormatAt.mono:∀ a0 a1 a2 k,LeO (spec_qrFormatAt.f k a0 a1 a2) (spec_qrFormatAt.f (k+1) a0 a1 a2):=by
 intro a0 a1 a2 k
 obtain⟨ih0,ih1,ih2,ih3,ih4,ih5⟩:=spec_qrFormatAt.mono_l k
 unfold spec_qrFormatAt.f
 repeat' first
   | (with_reducible exact ih0 _ _ _ _)
   | (with_reducible exact ih1 _ _ _ _)
   | (with_reducible exact ih2 _ _ _ _)
   | (with_reducible exact ih3 _ _ _ _)
   | (with_reducible exact ih4 _ _ _ _)
   | (with_reducible exact ih5 _ _ _ _)
   | (with_reducible exact LeO.refl _)
   | (with_reducible exact LeO.none _)
   | (with_reducible refine LeO.ite ?_ ?_)
   | (with_reducible refine LeO.bind ?_ (fun _=>?_))
   | exact ih0 _ _ _ _
   | exact ih1 _ _ _ _
   | exact ih2 _ _ _ _
   | exact ih3 _ _ _ _
   | exact ih4 _ _ _ _
   | exact ih5 _ _ _ _
   | exact LeO.none _
   | refine LeO.ite ?_ ?_
   | refine LeO.bind ?_ (fun _=>?_)
set_option maxHeartbeats 8000000 in
set_option maxRecDepth 100000 in
theorem spec_qrFormatAt.calls (k:Nat)(a0:Int)(a1:Int)(a2:Int)(r:Int)(w:World)(h:spec_qrFormatAt.f k a0 a1 a2=some r) :
  Calls Tryz.prog 97 #[.int .i64 a0,.int .i64 a1,.int .i64 a2] w fun e w'=>e=.returned (.int .i64 r)/\Drawn0 w w':=by
 have H:(if a2=8 then (spec_qrFormatAt.j0 k a0 a1 a2 (decide (a1<=5))) else (spec_qrFormatAt.j0 k a0 a1 a2 false))=some r:=h
 clear h
 have HC4:=Aside0.mk H
 clear H
 go_enter Tryz.func97,Tryz.ntmps97
 go_upto_region 1 with (fail)
 go_cut [7] (fun v7 wc=>∃ (kq:Nat) (x7_3:Bool),v7=.bool x7_3/\Aside0 (spec_qrFormatAt.j0 kq a0 a1 a2 x7_3=some r)/\Aside0 (kq<=k)/\Drawn0 w wc)
 case first=>
  have H:=HC4.out
  clear HC4
  by_cases c5:a2=8
  ·rw [if_pos c5] at H
   have c5b0:(a2==8)=true:=beq_iff_eq.mpr c5
   have c5b1:(a2 != 8)=false:=bne_eq_false_iff_eq.mpr c5
   clear c5
   (first | rw [c5b0] | (simp only [i64_w,i32_w];rw [c5b0]) | skip)
   have H':=Aside0.mk H
   clear H
   go_wp2
   go_meet
   case rel=>exact⟨_,(decide (a1<=5)),(by first | rfl | (simp;done) | (simp [*];done)),H',⟨by first | omega | exact Nat.le_refl _⟩,by repeat (first | exact Drawn0.refl _ | apply Drawn0.step)⟩
  ·rw [if_neg c5] at H
   have c5b0:(a2==8)=false:=beq_eq_false_iff_ne.mpr c5
   have c5b1:(a2 != 8)=true:=bne_iff_ne.mpr c5
   (first | rw [c5b0] | (simp only [i64_w,i32_w];rw [c5b0]) | skip)
   have H':=Aside0.mk H
   clear H
   go_wp2
   go_meet
   case rel=>exact⟨_,(false),(by first | rfl | (simp;done) | (simp [*];done)),H',⟨by first | omega | exact Nat.le_refl _⟩,by repeat (first | exact Drawn0.refl _ | apply Drawn0.step)⟩
 case rest=>
  clear HC4
  try clear p2
  try clear c5
  try clear c5b0
  try clear c5b1
  obtain⟨kq,x7_3,rfl,HA,HJ3,⟨mc3,rfl⟩⟩:=hcut
  cases kq with
  | zero=>exact absurd HA.out (by simp [spec_qrFormatAt.j0])
  | succ kj3=>
   have H:=HA.out
   clear HA
   simp only [spec_qrFormatAt.j0] at H
   by_cases c6:x7_3=true
   ·subst c6
    have H1:(some a1)=some r:=by rw [if_pos rfl] at H;exact H
    clear H
    have H:=H1
    clear H1
    obtain rfl:=Option.some.inj H
    go_wp2
    go_ret
    exact⟨by first | rfl | (simp;done) | (simp [*];done),by repeat (first | exact Drawn0.refl _ | apply Drawn0.step)⟩
   ·replace c6:=Bool.eq_false_iff.mpr c6
    subst c6
    have H1:(if a2=8 then (spec_qrFormatAt.j1 kj3 a0 a1 a2 (a1==7)) else (spec_qrFormatAt.j1 kj3 a0 a1 a2 false))=some r:=by rw [if_neg (show ¬ (false=true) by decide)] at H;exact H
    clear H
    have H:=H1
    clear H1
    have HC7:=Aside0.mk H
    clear H
    go_upto_region 3 with (fail)
    go_cut [15] (fun v15 wc=>∃ (kq:Nat) (x15_6:Bool),v15=.bool x15_6/\Aside0 (spec_qrFormatAt.j1 kq a0 a1 a2 x15_6=some r)/\Aside0 (kq<=kj3)/\Drawn0 w wc)
    case first=>
     have H:=HC7.out
     clear HC7
     by_cases c8:a2=8
     ·rw [if_pos c8] at H
      have c8b0:(a2==8)=true:=beq_iff_eq.mpr c8
      have c8b1:(a2 != 8)=false:=bne_eq_false_iff_eq.mpr c8
      clear c8
      (first | rw [c8b0] | (simp only [i64_w,i32_w];rw [c8b0]) | skip)
      have H':=Aside0.mk H
      clear H
      go_wp2
      go_meet
      case rel=>exact⟨_,((a1==7)),(by first | rfl | (simp;done) | (simp [*];done)),H',⟨by have:=HJ3.out;first | omega | exact Nat.le_refl _⟩,by repeat (first | exact Drawn0.refl _ | apply Drawn0.step)⟩
     ·rw [if_neg c8] at H
      have c8b0:(a2==8)=false:=beq_eq_false_iff_ne.mpr c8
      have c8b1:(a2 != 8)=true:=bne_iff_ne.mpr c8
      (first | rw [c8b0] | (simp only [i64_w,i32_w];rw [c8b0]) | skip)
      have H':=Aside0.mk H
      clear H
      go_wp2
      go_meet
      case rel=>exact⟨_,(false),(by first | rfl | (simp;done) | (simp [*];done)),H',⟨by have:=HJ3.out;first | omega | exact Nat.le_refl _⟩,by repeat (first | exact Drawn0.refl _ | apply Drawn0.step)⟩
    case rest=>
     clear HC7
     try clear p2
     try clear c3
     try clear c5
     try clear c5b0
     try clear c5b1
     try clear c6
     try clear c8
     try clear c8b0
     try clear c8b1
     try clear p2
     obtain⟨kq,x15_6,rfl,HA,HJ6,⟨mc6,rfl⟩⟩:=hcut
     cases kq with
     | zero=>exact absurd HA.out (by simp [spec_qrFormatAt.j1])
     | succ kj6=>
      have H:=HA.out
      clear HA
      simp only [spec_qrFormatAt.j1] at H
      by_cases c9:x15_6=true
      ·subst c9
       have H1:(some 6)=some r:=by rw [if_pos rfl] at H;exact H
       clear H
       have H:=H1
       clear H1
       obtain rfl:=Option.some.inj H
       go_wp2
       go_ret
       exact⟨by first | rfl | (simp;done) | (simp [*];done),by repeat (first | exact Drawn0.refl _ | apply Drawn0.step)⟩
      ·replace c9:=Bool.eq_false_iff.mpr c9
       subst c9
       have H1:(if a2=8 then (spec_qrFormatAt.j2 kj6 a0 a1 a2 (a1==8)) else (spec_qrFormatAt.j2 kj6 a0 a1 a2 false))=some r:=by rw [if_neg (show ¬ (false=true) by decide)] at H;exact H
       clear H
       have H:=H1
       clear H1
       have HC10:=Aside0.mk H
       clear H
       go_upto_region 5 with (fail)
       go_cut [22] (fun v22 wc=>∃ (kq:Nat) (x22_9:Bool),v22=.bool x22_9/\Aside0 (spec_qrFormatAt.j2 kq a0 a1 a2 x22_9=some r)/\Aside0 (kq<=kj6)/\Drawn0 w wc)
       case first=>
        have H:=HC10.out
        clear HC10
        by_cases c11:a2=8
        ·rw [if_pos c11] at H
         have c11b0:(a2==8)=true:=beq_iff_eq.mpr c11
         have c11b1:(a2 != 8)=false:=bne_eq_false_iff_eq.mpr c11
         clear c11
         (first | rw [c11b0] | (simp only [i64_w,i32_w];rw [c11b0]) | skip)
         have H':=Aside0.mk H
         clear H
         go_wp2
         go_meet
         case rel=>exact⟨_,((a1==8)),(by first | rfl | (simp;done) | (simp [*];done)),H',⟨by have:=HJ3.out;have:=HJ6.out;first | omega | exact Nat.le_refl _⟩,by repeat (first | exact Drawn0.refl _ | apply Drawn0.step)⟩
        ·rw [if_neg c11] at H
         have c11b0:(a2==8)=false:=beq_eq_false_iff_ne.mpr c11
         have c11b1:(a2 != 8)=true:=bne_iff_ne.mpr c11
         (first | rw [c11b0] | (simp only [i64_w,i32_w];rw [c11b0]) | skip)
         have H':=Aside0.mk H
         clear H
         go_wp2
         go_meet
         case rel=>exact⟨_,(false),(by first | rfl | (simp;done) | (simp [*];done)),H',⟨by have:=HJ3.out;have:=HJ6.out;first | omega | exact Nat.le_refl _⟩,by repeat (first | exact Drawn0.refl _ | apply Drawn0.step)⟩
       case rest=>
        clear HC10
        try clear c1
        try clear p2
        try clear c3
        try clear c5
        try clear c5b0
        try clear c5b1
        try clear c6
        try clear c8
        try clear c8b0
        try clear c8b1
        try clear c9
        try clear c11
        try clear c11b0
        try clear c11b1
        try clear p2
        obtain⟨kq,x22_9,rfl,HA,HJ9,⟨mc9,rfl⟩⟩:=hcut
        cases kq with
        | zero=>exact absurd HA.out (by simp [spec_qrFormatAt.j2])
        | succ kj9=>
         have H:=HA.out
         clear HA
         simp only [spec_qrFormatAt.j2] at H
         by_cases c12:x22_9=true
         ·subst c12
          have H1:(some 7)=some r:=by rw [if_pos rfl] at H;exact H
          clear H
          have H:=H1
          clear H1
          obtain rfl:=Option.some.inj H
          go_wp2
          go_ret
          exact⟨by first | rfl | (simp;done) | (simp [*];done),by repeat (first | exact Drawn0.refl _ | apply Drawn0.step)⟩
         ·replace c12:=Bool.eq_false_iff.mpr c12
          subst c12
          have H1:(if a1=8 then (spec_qrFormatAt.j3 kj9 a0 a1 a2 (a2==7)) else (spec_qrFormatAt.j3 kj9 a0 a1 a2 false))=some r:=by rw [if_neg (show ¬ (false=true) by decide)] at H;exact H
          clear H
          have H:=H1
          clear H1
          have HC13:=Aside0.mk H
          clear H
          go_upto_region 7 with (fail)
          go_cut [29] (fun v29 wc=>∃ (kq:Nat) (x29_12:Bool),v29=.bool x29_12/\Aside0 (spec_qrFormatAt.j3 kq a0 a1 a2 x29_12=some r)/\Aside0 (kq<=kj9)/\Drawn0 w wc)
          case first=>
           have H:=HC13.out
           clear HC13
           by_cases c14:a1=8
           ·rw [if_pos c14] at H
            have c14b0:(a1==8)=true:=beq_iff_eq.mpr c14
            have c14b1:(a1 != 8)=false:=bne_eq_false_iff_eq.mpr c14
            clear c14
            (first | rw [c14b0] | (simp only [i64_w,i32_w];rw [c14b0]) | skip)
            have H':=Aside0.mk H
            clear H
            go_wp2
            go_meet
            case rel=>exact⟨_,((a2==7)),(by first | rfl | (simp;done) | (simp [*];done)),H',⟨by have:=HJ3.out;have:=HJ6.out;have:=HJ9.out;first | omega | exact Nat.le_refl _⟩,by repeat (first | exact Drawn0.refl _ | apply Drawn0.step)⟩
           ·rw [if_neg c14] at H
            have c14b0:(a1==8)=false:=beq_eq_false_iff_ne.mpr c14
            have c14b1:(a1 != 8)=true:=bne_iff_ne.mpr c14
            (first | rw [c14b0] | (simp only [i64_w,i32_w];rw [c14b0]) | skip)
            have H':=Aside0.mk H
            clear H
            go_wp2
            go_meet
            case rel=>exact⟨_,(false),(by first | rfl | (simp;done) | (simp [*];done)),H',⟨by have:=HJ3.out;have:=HJ6.out;have:=HJ9.out;first | omega | exact Nat.le_refl _⟩,by repeat (first | exact Drawn0.refl _ | apply Drawn0.step)⟩
          case rest=>
           clear HC13
           try clear c1
           try clear p2
           try clear c3
           try clear c5
           try clear c5b0
           try clear c5b1
           try clear c6
           try clear c8
           try clear c8b0
           try clear c8b1
           try clear c9
           try clear c11
           try clear c11b0
           try clear c11b1
           try clear c12
           try clear c14
           try clear c14b0
           try clear c14b1
           try clear p2
           obtain⟨kq,x29_12,rfl,HA,HJ12,⟨mc12,rfl⟩⟩:=hcut
           cases kq with
           | zero=>exact absurd HA.out (by simp [spec_qrFormatAt.j3])
           | succ kj12=>
            have H:=HA.out
            clear HA
            simp only [spec_qrFormatAt.j3] at H
            by_cases c15:x29_12=true
            ·subst c15
             have H1:(some 8)=some r:=by rw [if_pos rfl] at H;exact H
             clear H
             have H:=H1
             clear H1
             obtain rfl:=Option.some.inj H
             go_wp2
             go_ret
             exact⟨by first | rfl | (simp;done) | (simp [*];done),by repeat (first | exact Drawn0.refl _ | apply Drawn0.step)⟩
            ·replace c15:=Bool.eq_false_iff.mpr c15
             subst c15
             have H1:(if a1=8 then (spec_qrFormatAt.j4 kj12 a0 a1 a2 (decide (a2<=5))) else (spec_qrFormatAt.j4 kj12 a0 a1 a2 false))=some r:=by rw [if_neg (show ¬ (false=true) by decide)] at H;exact H
             clear H
             have H:=H1
             clear H1
             have HC16:=Aside0.mk H
             clear H
             go_upto_region 9 with (fail)
             go_cut [36] (fun v36 wc=>∃ (kq:Nat) (x36_15:Bool),v36=.bool x36_15/\Aside0 (spec_qrFormatAt.j4 kq a0 a1 a2 x36_15=some r)/\Aside0 (kq<=kj12)/\Drawn0 w wc)
             case first=>
              have H:=HC16.out
              clear HC16
              by_cases c17:a1=8
              ·rw [if_pos c17] at H
               have c17b0:(a1==8)=true:=beq_iff_eq.mpr c17
               have c17b1:(a1 != 8)=false:=bne_eq_false_iff_eq.mpr c17
               clear c17
               (first | rw [c17b0] | (simp only [i64_w,i32_w];rw [c17b0]) | skip)
               have H':=Aside0.mk H
               clear H
               go_wp2
               go_meet
               case rel=>exact⟨_,(decide (a2<=5)),(by first | rfl | (simp;done) | (simp [*];done)),H',⟨by have:=HJ3.out;have:=HJ6.out;have:=HJ9.out;have:=HJ12.out;first | omega | exact Nat.le_refl _⟩,by repeat (first | exact Drawn0.refl _ | apply Drawn0.step)⟩
              ·rw [if_neg c17] at H
               have c17b0:(a1==8)=false:=beq_eq_false_iff_ne.mpr c17
               have c17b1:(a1 != 8)=true:=bne_iff_ne.mpr c17
               (first | rw [c17b0] | (simp only [i64_w,i32_w];rw [c17b0]) | skip)
               have H':=Aside0.mk H
               clear H
               go_wp2
               go_meet
               case rel=>exact⟨_,(false),(by first | rfl | (simp;done) | (simp [*];done)),H',⟨by have:=HJ3.out;have:=HJ6.out;have:=HJ9.out;have:=HJ12.out;first | omega | exact Nat.le_refl _⟩,by repeat (first | exact Drawn0.refl _ | apply Drawn0.step)⟩
             case rest=>
              clear HC16
              try clear c1
              try clear p2
              try clear c3
              try clear c5
              try clear c5b0
              try clear c5b1
              try clear c6
              try clear c8
              try clear c8b0
              try clear c8b1
              try clear c9
              try clear c11
              try clear c11b0
              try clear c11b1
              try clear c12
              try clear c14
              try clear c14b0
              try clear c14b1
              try clear c15
              try clear c17
              try clear c17b0
              try clear c17b1
              try clear p2
              obtain⟨kq,x36_15,rfl,HA,HJ15,⟨mc15,rfl⟩⟩:=hcut
              cases kq with
              | zero=>exact absurd HA.out (by simp [spec_qrFormatAt.j4])
              | succ kj15=>
               have H:=HA.out
               clear HA
               simp only [spec_qrFormatAt.j4] at H
               by_cases c18:x36_15=true
               ·subst c18
                have H1:(some (wrap64 (14-a2)))=some r:=by rw [if_pos rfl] at H;exact H
                clear H
                have H:=H1
                clear H1
                obtain rfl:=Option.some.inj H
                go_wp2
                go_ret
                exact⟨by first | rfl | (simp;done) | (simp [*];done),by repeat (first | exact Drawn0.refl _ | apply Drawn0.step)⟩
               ·replace c18:=Bool.eq_false_iff.mpr c18
                subst c18
                have H1:(if a1=8 then (spec_qrFormatAt.j5 kj15 a0 a1 a2 (decide (a2≥(wrap64 (a0-8))))) else (spec_qrFormatAt.j5 kj15 a0 a1 a2 false))=some r:=by rw [if_neg (show ¬ (false=true) by decide)] at H;exact H
                clear H
                have H:=H1
                clear H1
                have HC19:=Aside0.mk H
                clear H
                go_upto_region 11 with (fail)
                go_cut [45] (fun v45 wc=>∃ (kq:Nat) (x45_18:Bool),v45=.bool x45_18/\Aside0 (spec_qrFormatAt.j5 kq a0 a1 a2 x45_18=some r)/\Aside0 (kq<=kj15)/\Drawn0 w wc)
                case first=>
                 have H:=HC19.out
                 clear HC19
                 by_cases c20:a1=8
                 ·rw [if_pos c20] at H
                  have c20b0:(a1==8)=true:=beq_iff_eq.mpr c20
                  have c20b1:(a1 != 8)=false:=bne_eq_false_iff_eq.mpr c20
                  clear c20
                  (first | rw [c20b0] | (simp only [i64_w,i32_w];rw [c20b0]) | skip)
                  have H':=Aside0.mk H
                  clear H
                  go_wp2
                  go_meet
                  case rel=>exact⟨_,(decide (a2≥(wrap64 (a0-8)))),(by first | rfl | (simp;done) | (simp [*];done)),H',⟨by have:=HJ3.out;have:=HJ6.out;have:=HJ9.out;have:=HJ12.out;have:=HJ15.out;first | omega | exact Nat.le_refl _⟩,by repeat (first | exact Drawn0.refl _ | apply Drawn0.step)⟩
                 ·rw [if_neg c20] at H
                  have c20b0:(a1==8)=false:=beq_eq_false_iff_ne.mpr c20
                  have c20b1:(a1 != 8)=true:=bne_iff_ne.mpr c20
                  (first | rw [c20b0] | (simp only [i64_w,i32_w];rw [c20b0]) | skip)
                  have H':=Aside0.mk H
                  clear H
                  go_wp2
                  go_meet
                  case rel=>exact⟨_,(false),(by first | rfl | (simp;done) | (simp [*];done)),H',⟨by have:=HJ3.out;have:=HJ6.out;have:=HJ9.out;have:=HJ12.out;have:=HJ15.out;first | omega | exact Nat.le_refl _⟩,by repeat (first | exact Drawn0.refl _ | apply Drawn0.step)⟩
                case rest=>
                 clear HC19
                 try clear c1
                 try clear c2
                 try clear p2
                 try clear c3
                 try clear c5
                 try clear c5b0
                 try clear c5b1
                 try clear c6
                 try clear p6
                 try clear c8
                 try clear c8b0
                 try clear c8b1
                 try clear c9
                 try clear c11
                 try clear c11b0
                 try clear c11b1
                 try clear c12
                 try clear c14
                 try clear c14b0
                 try clear c14b1
                 try clear c15
                 try clear c17
                 try clear c17b0
                 try clear c17b1
                 try clear c18
                 try clear c20
                 try clear c20b0
                 try clear c20b1
                 try clear p2
                 obtain⟨kq,x45_18,rfl,HA,HJ18,⟨mc18,rfl⟩⟩:=hcut
                 cases kq with
                 | zero=>exact absurd HA.out (by simp [spec_qrFormatAt.j5])
                 | succ kj18=>
                  have H:=HA.out
                  clear HA
                  simp only [spec_qrFormatAt.j5] at H
                  by_cases c21:x45_18=true
                  ·subst c21
                   have H1:(some (wrap64 ((wrap64 (a0-1))-a2)))=some r:=by rw [if_pos rfl] at H;exact H
                   clear H
                   have H:=H1
                   clear H1
                   obtain rfl:=Option.some.inj H
                   go_wp2
                   go_ret
                   exact⟨by first | rfl | (simp;done) | (simp [*];done),by repeat (first | exact Drawn0.refl _ | apply Drawn0.step)⟩
                  ·replace c21:=Bool.eq_false_iff.mpr c21
                   subst c21
                   have H1:(if a2=8 then (if a1≥(wrap64 (a0-7)) then (some (wrap64 ((wrap64 (a1-a0))+15))) else (some (-1))) else (some (-1)))=some r:=by rw [if_neg (show ¬ (false=true) by decide)] at H;exact H
                   clear H
                   have H:=H1
                   clear H1
                   by_cases c22:a2=8
                   ·rw [if_pos c22] at H
                    have c22b0:(a2==8)=true:=beq_iff_eq.mpr c22
                    have c22b1:(a2 != 8)=false:=bne_eq_false_iff_eq.mpr c22
                    clear c22
                    by_cases c23:a1≥(wrap64 (a0-7))
                    ·rw [if_pos c23] at H
                     have c23b0:decide ((wrap64 (a0-7))<=a1)=true:=decide_eq_true c23
                     clear c23
                     obtain rfl:=Option.some.inj H
                     go_wp2
                     go_ret
                     exact⟨by first | rfl | (simp;done) | (simp [*];done),by repeat (first | exact Drawn0.refl _ | apply Drawn0.step)⟩
                    ·rw [if_neg c23] at H
                     have c23b0:decide ((wrap64 (a0-7))<=a1)=false:=decide_eq_false c23
                     clear c23
                     obtain rfl:=Option.some.inj H
                     go_wp2
                     go_ret
                     exact⟨by first | rfl | (simp;done) | (simp [*];done),by repeat (first | exact Drawn0.refl _ | apply Drawn0.step)⟩
                   ·rw [if_neg c22] at H
                    have c22b0:(a2==8)=false:=beq_eq_false_iff_ne.mpr c22
                    have c22b1:(a2 != 8)=true:=bne_iff_ne.mpr c22
                    obtain rfl:=Option.some.inj H
                    go_wp2
                    go_ret
                    exact⟨by first | rfl | (simp;done) | (simp [*];done),by repeat (first | exact Drawn0.refl _ | apply Drawn0.step)⟩
end Go.Proofs.YtgccjgpdjkhpdaaGreat.F
namespace Go.Proofs.YtgccjgpdjkhpdaaGreat.F
open Go.RowKit Go.Proofs.YtgccjgpdjkhpdaaGreatW.PrintWords Go.Proofs.YtgccjgpdjkhpdaaGreatW.PrintLast Go.Proofs.YtgccjgpdjkhpdaaGreatW.PrintMore
attribute [local go_sem] max2_int min2_int max_two min_two max_three min_three max_four min_four
set_option linter.unusedVariables false
set_option linter.unusedSimpArgs false
def spec_qrRest.l0:Nat->Int->Int->Int->Int->Option (Int)
 | 0,_,_,_,_=>none
 | k+1,x0,x1,x2,x7=>if x7≥(wrap64 (x2-1)) then (if 0<=x7 then (if (Go.bits .and .i64 (shr .i64 x0 x7) 1)=1 then (if 0<=(wrap64 ((wrap64 (x7-x2))+1)) then (spec_qrRest.l0 k (Go.bits .xor .i64 x0 (shl .i64 x1 (wrap64 ((wrap64 (x7-x2))+1)))) x1 x2 (wrap64 (x7-1))) else (none)) else (spec_qrRest.l0 k x0 x1 x2 (wrap64 (x7-1)))) else (none)) else (some x0)
def spec_qrRest.f (k:Nat)(a0:Int)(a1:Int)(a2:Int):Option (Int):=spec_qrRest.l0 k a0 a1 a2 17
theorem spec_qrRest.mono_l:∀ k,(∀ y0 y1 y2 y3,LeO (spec_qrRest.l0 k y0 y1 y2 y3) (spec_qrRest.l0 (k+1) y0 y1 y2 y3))
 | 0=>fun _ _ _ _ r h=>by simp [spec_qrRest.l0] at h
 | k+1=>by
  have ih0:=spec_qrRest.mono_l k
  ·intro y0 y1 y2 y3
   unfold spec_qrRest.l0
   repeat' first
   | (with_reducible exact ih0 _ _ _ _)
   | (with_reducible exact LeO.refl _)
   | (with_reducible exact LeO.none _)
   | (with_reducible refine LeO.ite ?_ ?_)
   | (with_reducible refine LeO.bind ?_ (fun _=>?_))
   | exact ih0 _ _ _ _
   | exact LeO.none _
   | refine LeO.ite ?_ ?_
   | refine LeO.bind ?_ (fun _=>?_)
theorem spec_qrRest.mono:∀ a0 a1 a2 k,LeO (spec_qrRest.f k a0 a1 a2) (spec_qrRest.f (k+1) a0 a1 a2):=by
 intro a0 a1 a2 k
 have ih0:=spec_qrRest.mono_l k
 unfold spec_qrRest.f
 repeat' first
   | (with_reducible exact ih0 _ _ _ _)
   | (with_reducible exact LeO.refl _)
   | (with_reducible exact LeO.none _)
   | (with_reducible refine LeO.ite ?_ ?_)
   | (with_reducible refine LeO.bind ?_ (fun _=>?_))
   | exact ih0 _ _ _ _
   | exact LeO.none _
   | refine LeO.ite ?_ ?_
   | refine LeO.bind ?_ (fun _=>?_)
set_option maxHeartbeats 8000000 in
set_option maxRecDepth 100000 in
theorem spec_qrRest.calls (k:Nat)(a0:Int)(a1:Int)(a2:Int)(r:Int)(w:World)(h:spec_qrRest.f k a0 a1 a2=some r) :
  Calls Tryz.prog 95 #[.int .i64 a0,.int .i64 a1,.int .i64 a2] w fun e w'=>e=.returned (.int .i64 r)/\Drawn0 w w':=by
 have H:(spec_qrRest.l0 k a0 a1 a2 17)=some r:=h
 clear h
 have H':=Aside0.mk H
 clear H
 go_enter Tryz.func95,Tryz.ntmps95
 go_wp2
 go_loopg [0,7] k (fun kq v0 v7 w'=>∃ (x0_1:Int) (x7_1:Int),v0=.int .i64 x0_1/\v7=.int .i64 x7_1/\Aside0 (spec_qrRest.l0 kq x0_1 a1 a2 x7_1=some r)/\Aside0 (kq<=k)/\Drawn0 w w')
 case atStart=>exact⟨(a0),(17),(by first | rfl | (simp;done) | (simp [*];done)),(by first | rfl | (simp;done) | (simp [*];done)),H',⟨Nat.le_refl _⟩,by repeat (first | exact Drawn0.refl _ | apply Drawn0.step)⟩
 case round=>
  clear H'
  try clear p2
  obtain⟨x0_1,x7_1,rfl,rfl,HA,HK1,⟨m1,rfl⟩⟩:=hrel
  cases gk with
  | zero=>exact absurd HA.out (by simp [spec_qrRest.l0])
  | succ k1=>
   have H:=HA.out
   clear HA
   simp only [spec_qrRest.l0] at H
   by_cases c4:x7_1≥(wrap64 (a2-1))
   ·rw [if_pos c4] at H
    have c4b0:decide ((wrap64 (a2-1))<=x7_1)=true:=decide_eq_true c4
    clear c4
    by_cases c5:0<=x7_1
    ·rw [if_pos c5] at H
     have c5b0:=eq_true c5
     have c5b1:decide (0<=x7_1)=true:=decide_eq_true c5
     clear c5
     obtain⟨ji6,hji6⟩:∃ j_:Int,(shr .i64 x0_1 x7_1)=j_:=⟨_,rfl⟩
     replace H:(if (Go.bits .and .i64 (ji6) 1)=1 then (if 0<=(wrap64 ((wrap64 (x7_1-a2))+1)) then (spec_qrRest.l0 k1 (Go.bits .xor .i64 x0_1 (shl .i64 a1 (wrap64 ((wrap64 (x7_1-a2))+1)))) a1 a2 (wrap64 (x7_1-1))) else (none)) else (spec_qrRest.l0 k1 x0_1 a1 a2 (wrap64 (x7_1-1))))=some r:=by first | (rw [hji6] at H;exact H) | (simp only [hji6] at H ⊢;exact H)
     have hji6_:(x0_1/2 ^ min x7_1.toNat 64)=ji6:=hji6
     have hji6z:x7_1<=64->(x0_1/2 ^ x7_1.toNat)=ji6:=shr_small hji6
     by_cases c7:(Go.bits .and .i64 (ji6) 1)=1
     ·rw [if_pos c7] at H
      have c7b0:((Go.bits .and .i64 (ji6) 1)==1)=true:=beq_iff_eq.mpr c7
      have c7b1:((Go.bits .and .i64 (ji6) 1) != 1)=false:=bne_eq_false_iff_eq.mpr c7
      clear c7
      obtain⟨ji8,hji8⟩:∃ j_:Int,(wrap64 ((wrap64 (x7_1-a2))+1))=j_:=⟨_,rfl⟩
      replace H:(if 0<=(ji8) then (spec_qrRest.l0 k1 (Go.bits .xor .i64 x0_1 (shl .i64 a1 (ji8))) a1 a2 (wrap64 (x7_1-1))) else (none))=some r:=by first | (rw [hji8] at H;exact H) | (simp only [hji8] at H ⊢;exact H)
      have hji8w:(IntKind.i64.wrap ((wrap64 (x7_1-a2))+1))=ji8:=(i64_w _).trans hji8
      by_cases c9:0<=(ji8)
      ·rw [if_pos c9] at H
       have c9b0:=eq_true c9
       have c9b1:decide (0<=(ji8))=true:=decide_eq_true c9
       clear c9
       obtain⟨ji10,hji10⟩:∃ j_:Int,(shl .i64 a1 (ji8))=j_:=⟨_,rfl⟩
       replace H:(spec_qrRest.l0 k1 (Go.bits .xor .i64 x0_1 (ji10)) a1 a2 (wrap64 (x7_1-1)))=some r:=by first | (rw [hji10] at H;exact H) | (simp only [hji10] at H ⊢;exact H)
       have hji10_:(IntKind.i64.wrap (a1*2 ^ min (ji8).toNat 64))=ji10:=hji10
       have hji10z:(ji8)<=64->(IntKind.i64.wrap (a1*2 ^ (ji8).toNat))=ji10:=shl_small hji10
       have hji10y:(wrap64 (a1*2 ^ min (ji8).toNat 64))=ji10:=(i64_w _).symm.trans hji10_
       have hji10x:(ji8)<=64->(wrap64 (a1*2 ^ (ji8).toNat))=ji10:=fun h_=>(i64_w _).symm.trans (hji10z h_)
       have H':=Aside0.mk H
       clear H
       go_wp2
       go_roundg k1
       case measure=>have:=HK1.out;omega
       case rel=>exact⟨(Go.bits .xor .i64 x0_1 (ji10)),(wrap64 (x7_1-1)),(by first | rfl | (simp;done) | (simp only [<- hji10]<;>(first | rfl | simp)) | (simp [*];done)),(by first | rfl | (simp;done) | (simp [*];done)),H',⟨by have:=HK1.out;omega⟩,by repeat (first | exact Drawn0.refl _ | apply Drawn0.step)⟩
      ·rw [if_neg c9] at H
       exact absurd H (by simp)
     ·rw [if_neg c7] at H
      have c7b0:((Go.bits .and .i64 (ji6) 1)==1)=false:=beq_eq_false_iff_ne.mpr c7
      have c7b1:((Go.bits .and .i64 (ji6) 1) != 1)=true:=bne_iff_ne.mpr c7
      have H':=Aside0.mk H
      clear H
      go_wp2
      go_roundg k1
      case measure=>have:=HK1.out;omega
      case rel=>exact⟨(x0_1),(wrap64 (x7_1-1)),(by first | rfl | (simp;done) | (simp [*];done)),(by first | rfl | (simp;done) | (simp [*];done)),H',⟨by have:=HK1.out;omega⟩,by repeat (first | exact Drawn0.refl _ | apply Drawn0.step)⟩
    ·rw [if_neg c5] at H
     exact absurd H (by simp)
   ·rw [if_neg c4] at H
    have c4b0:decide ((wrap64 (a2-1))<=x7_1)=false:=decide_eq_false c4
    clear c4
    obtain rfl:=Option.some.inj H
    go_wp2
    go_ret
    exact⟨by first | rfl | (simp;done) | (simp [*];done),by repeat (first | exact Drawn0.refl _ | apply Drawn0.step)⟩
def spec_QRVersionBits.f (k:Nat)(a0:Int):Option (Int):=(spec_qrRest.f k (wrap64 (a0*4096)) 7973 13).bind fun t310=>(some (Go.bits .or .i64 (wrap64 (a0*4096)) t310))
theorem spec_QRVersionBits.mono:∀ a0 k,LeO (spec_QRVersionBits.f k a0) (spec_QRVersionBits.f (k+1) a0):=by
 intro a0 k
 unfold spec_QRVersionBits.f
 repeat' first
   | (with_reducible exact spec_qrRest.mono _ _ _ _)
   | (with_reducible exact LeO.refl _)
   | (with_reducible exact LeO.none _)
   | (with_reducible refine LeO.ite ?_ ?_)
   | (with_reducible refine LeO.bind ?_ (fun _=>?_))
   | exact spec_qrRest.mono _ _ _ _
   | exact LeO.none _
   | refine LeO.ite ?_ ?_
   | refine LeO.bind ?_ (fun _=>?_)
set_option maxHeartbeats 8000000 in
set_option maxRecDepth 100000 in
theorem spec_QRVersionBits.calls (k:Nat)(a0:Int)(r:Int)(w:World)(h:spec_QRVersionBits.f k a0=some r) :
  Calls Tryz.prog 99 #[.int .i64 a0] w fun e w'=>e=.returned (.int .i64 r)/\Drawn0 w w':=by
 have H:((spec_qrRest.f k (wrap64 (a0*4096)) 7973 13).bind fun t310=>(some (Go.bits .or .i64 (wrap64 (a0*4096)) t310)))=some r:=h
 clear h
 replace H:=Option.bind_eq_some_iff.mp H
 obtain⟨t310,A20,H⟩:=H
 replace H:(some (Go.bits .or .i64 (wrap64 (a0*4096)) t310))=some r:=H
 have A2:=Aside0.mk A20
 clear A20
 obtain rfl:=Option.some.inj H
 go_enter Tryz.func99,Tryz.ntmps99
 go_wp2_with (first | ((with_reducible refine gate_callee (f:=95) rfl ?_);refine goesL_ (some 7) rfl rfl Tryz.func95 (by kernel_rfl) rfl #[.int .i64 (wrap64 (a0*4096)),.int .i64 7973,.int .i64 13] rfl (by (try simp only [List.map_toArray,List.map_cons,List.map_nil]);first | done | rfl | (simp only [List.length_drop,List.length_take];rfl)) ?_;(with_reducible refine (spec_qrRest.calls k (wrap64 (a0*4096)) 7973 13 t310 _ A2.out).mono ?_);rintro e w' ⟨rfl,⟨nd,rfl⟩⟩;refine⟨_,rfl,?_⟩))
 go_ret
 exact⟨by first | rfl | (simp;done) | (simp [*];done),by repeat (first | exact Drawn0.refl _ | apply Drawn0.step)⟩
end Go.Proofs.YtgccjgpdjkhpdaaGreat.F
namespace Go.Proofs.YtgccjgpdjkhpdaaGreat.B
open Go.RowKit Go.Proofs.YtgccjgpdjkhpdaaGreatW.PrintWords Go.Proofs.YtgccjgpdjkhpdaaGreatW.PrintLast Go.Proofs.YtgccjgpdjkhpdaaGreatW.PrintMore
set_option linter.unusedVariables false
set_option linter.unusedSimpArgs false
theorem w64q (x:Int)(h0:-1000000<=x)(h1:x<=1000000000):wrap64 x=x:=by unfold wrap64;omega
theorem align_some (cs:List Int)(r c:Int)(hl:cs.length<=20):∃ t:Int,Ev (fun k=>F.spec_qrAlign.f k cs r c) t:=by
 obtain⟨last,hlast⟩:∃ last,wrap64 ((cs.length:Int)-1)=last:=⟨_,rfl⟩
 have HLAST:=Aside0.mk hlast
 clear hlast
 have H:∀ (d i:Nat),i+d=cs.length->∃ t:Int,Ev (fun k=>F.spec_qrAlign.l0 k cs r c last cs (cs.length:Int) i) t:=by
  intro d
  induction d with
  | zero=>
   intro i hi
   exact⟨-1,Ev.step (f:=fun _=>some (-1)) (fun k=>by rw [F.spec_qrAlign.l0,if_neg (by omega)]) (Ev.now _)⟩
  | succ d ih=>
   intro i hi
   obtain⟨t0,h0⟩:=ih (i+1) (by omega)
   have HW:=Aside0.mk (show wrap64 ((i:Int)+1)=((i+1:Nat):Int) by rw [w64q _ (by omega) (by omega)];rfl)
   obtain⟨a,ha⟩:∃ a,rd cs i=a:=⟨_,rfl⟩
   have HA:=Aside0.mk ha
   clear ha
   have H1:∀ (e j:Nat),j+e=cs.length->∃ t:Int,Ev (fun k=>F.spec_qrAlign.l1 k cs r c last i a cs (cs.length:Int) i cs (cs.length:Int) j) t:=by
    intro e
    induction e with
    | zero=>
     intro j hj
     exact⟨t0,Ev.step (fun k=>by rw [F.spec_qrAlign.l1,if_neg (by omega),HW.out]) h0⟩
    | succ e ih1=>
     intro j hj
     obtain⟨t1,h1⟩:=ih1 (j+1) (by omega)
     have HWJ:=Aside0.mk (show wrap64 ((j:Int)+1)=((j+1:Nat):Int) by rw [w64q _ (by omega) (by omega)];rfl)
     obtain⟨b,hb⟩:∃ b,rd cs j=b:=⟨_,rfl⟩
     have HBB:=Aside0.mk hb
     clear hb
     have H3:∀ f:Bool,∃ t:Int,Ev (fun k=>F.spec_qrAlign.j3 k cs r c last i a b cs (cs.length:Int) i cs (cs.length:Int) j f) t:=by
      intro f
      cases f with
      | true=>exact⟨t1,Ev.step (fun k=>by rw [F.spec_qrAlign.j3,if_pos rfl,HWJ.out]) h1⟩
      | false=>
       obtain⟨u,hu⟩:∃ u,F.spec_qrFar.f r c a b=some u:=⟨_,rfl⟩
       by_cases h2:u<=2
       ·exact⟨u,Ev.step (f:=fun _=>some u) (fun k=>by rw [F.spec_qrAlign.j3,if_neg (by simp),hu,Option.bind_some,if_pos h2]) (Ev.now _)⟩
       ·exact⟨t1,Ev.step (fun k=>by rw [F.spec_qrAlign.j3,if_neg (by simp),hu,Option.bind_some,if_neg h2,HWJ.out]) h1⟩
     have hhead:∀ k,F.spec_qrAlign.l1 (k+1) cs r c last i a cs (cs.length:Int) i cs (cs.length:Int) j=(if (i:Int)=0 then (if (j:Int)=0 then (F.spec_qrAlign.j3 k cs r c last i a b cs (cs.length:Int) i cs (cs.length:Int) j true) else (if (j:Int)=last then (F.spec_qrAlign.j3 k cs r c last i a b cs (cs.length:Int) i cs (cs.length:Int) j true) else (if (i:Int)=last then (F.spec_qrAlign.j3 k cs r c last i a b cs (cs.length:Int) i cs (cs.length:Int) j ((j:Int)==0)) else (F.spec_qrAlign.j3 k cs r c last i a b cs (cs.length:Int) i cs (cs.length:Int) j false)))) else (if (i:Int)=last then (F.spec_qrAlign.j3 k cs r c last i a b cs (cs.length:Int) i cs (cs.length:Int) j ((j:Int)==0)) else (F.spec_qrAlign.j3 k cs r c last i a b cs (cs.length:Int) i cs (cs.length:Int) j false))):=by
      intro k
      rw [F.spec_qrAlign.l1,if_pos (by omega),if_pos (by omega),if_pos (by omega),HBB.out]
     by_cases g1:(i:Int)=0
     ·by_cases g2:(j:Int)=0
      ·obtain⟨t,ht⟩:=H3 true
       exact⟨t,Ev.step (fun k=>by rw [hhead,if_pos g1,if_pos g2]) ht⟩
      ·by_cases g3:(j:Int)=last
       ·obtain⟨t,ht⟩:=H3 true
        exact⟨t,Ev.step (fun k=>by rw [hhead,if_pos g1,if_neg g2,if_pos g3]) ht⟩
       ·by_cases g4:(i:Int)=last
        ·obtain⟨t,ht⟩:=H3 ((j:Int)==0)
         exact⟨t,Ev.step (fun k=>by rw [hhead,if_pos g1,if_neg g2,if_neg g3,if_pos g4]) ht⟩
        ·obtain⟨t,ht⟩:=H3 false
         exact⟨t,Ev.step (fun k=>by rw [hhead,if_pos g1,if_neg g2,if_neg g3,if_neg g4]) ht⟩
     ·by_cases g4:(i:Int)=last
      ·obtain⟨t,ht⟩:=H3 ((j:Int)==0)
       exact⟨t,Ev.step (fun k=>by rw [hhead,if_neg g1,if_pos g4]) ht⟩
      ·obtain⟨t,ht⟩:=H3 false
       exact⟨t,Ev.step (fun k=>by rw [hhead,if_neg g1,if_neg g4]) ht⟩
   obtain⟨t1,h1⟩:=H1 cs.length 0 (by omega)
   have hhead:∀ k,F.spec_qrAlign.l0 (k+1) cs r c last cs (cs.length:Int) i=(if r<(wrap64 (a-2)) then (F.spec_qrAlign.j1 k cs r c last i a cs (cs.length:Int) i true) else (F.spec_qrAlign.j1 k cs r c last i a cs (cs.length:Int) i (decide (r>(wrap64 (a+2)))))):=by
    intro k
    rw [F.spec_qrAlign.l0,if_pos (by omega),if_pos (by omega),if_pos (by omega),HA.out]
   have HJ:∀ f:Bool,∃ t:Int,Ev (fun k=>F.spec_qrAlign.j1 k cs r c last i a cs (cs.length:Int) i f) t:=by
    intro f
    cases f with
    | true=>exact⟨t0,Ev.step (fun k=>by rw [F.spec_qrAlign.j1,if_pos rfl,HW.out]) h0⟩
    | false=>exact⟨t1,Ev.step (fun k=>by rw [F.spec_qrAlign.j1,if_neg (by simp)];rfl) h1⟩
   by_cases g1:r<wrap64 (a-2)
   ·obtain⟨t,ht⟩:=HJ true
    exact⟨t,Ev.step (fun k=>by rw [hhead,if_pos g1]) ht⟩
   ·obtain⟨t,ht⟩:=HJ (decide (r>wrap64 (a+2)))
    exact⟨t,Ev.step (fun k=>by rw [hhead,if_neg g1]) ht⟩
 obtain⟨t,ht⟩:=H cs.length 0 (by omega)
 exact⟨t,Ev.congr (fun k=>by rw [F.spec_qrAlign.f,HLAST.out];rfl) ht⟩
def givenP (v n r c al:Int):Bool :=
 (decide (r<=8) && (decide (c<=8) || decide (c≥n-8))) || (decide (r≥n-8) && decide (c<=8)) || decide (r=6) || decide (c=6) ||
  (decide (v≥7) && ((decide (r<=5) && decide (c≥n-11)) || (decide (c<=5) && decide (r≥n-11)))) || decide (al≥0)
theorem dim_f (v:Int)(h:1<=v/\v<=40):F.spec_QRDimension.f v=some (17+4*v):=by
 unfold F.spec_QRDimension.f
 rw [w64q (4*v) (by omega) (by omega),w64q _ (by omega) (by omega)]
theorem given_run (v n r c al:Int)(cs:List Int)(hv:1<=v/\v<=40)(hn:n=17+4*v)(hal:Ev (fun k=>F.spec_qrAlign.f k cs r c) al):Ev (fun k=>F.spec_qrGiven.f k v cs r c) (givenP v n r c al):=by
 have hd:=dim_f v hv
 rw [<- hn] at hd
 have h8:wrap64 (n-8)=n-8:=w64q _ (by omega) (by omega)
 have h11:wrap64 (n-11)=n-11:=w64q _ (by omega) (by omega)
 have H2:∀ b:Bool,Ev (fun k=>F.spec_qrGiven.j2 k v cs r c n b) (b || (decide (v≥7) && ((decide (r<=5) && decide (c≥n-11)) || (decide (c<=5) && decide (r≥n-11)))) || decide (al≥0)):=by
  intro b
  have hend:∀ k:Nat->Option Bool,Ev (fun k=>(F.spec_qrAlign.f k cs r c).bind fun t=>some (decide (t≥0))) (decide (al≥0)):=fun _=>Ev.bind hal (Ev.now _)
  cases b with
  | true=>exact Ev.step (f:=fun _=>some true) (fun k=>by rw [F.spec_qrGiven.j2,if_pos rfl]) (Ev.now _)
  | false=>
   by_cases g1:v≥7
   ·by_cases g2:r<=5
    ·by_cases g3:c≥n-11
     ·simp only [g1,g2,g3,decide_true,Bool.and_true,Bool.true_or,Bool.false_or,Bool.true_and]
      exact Ev.step (f:=fun _=>some true) (fun k=>by rw [F.spec_qrGiven.j2,if_neg (by simp),if_pos g1,if_pos g2,h11,if_pos g3]) (Ev.now _)
     ·by_cases g4:c<=5
      ·by_cases g5:r≥n-11
       ·simp only [g1,g2,g4,g5,decide_true,Bool.and_true,Bool.true_or,Bool.or_true,Bool.false_or,Bool.true_and]
        exact Ev.step (f:=fun _=>some true) (fun k=>by rw [F.spec_qrGiven.j2,if_neg (by simp),if_pos g1,if_pos g2,h11,if_neg g3,if_pos g4,if_pos g5]) (Ev.now _)
       ·simp only [g1,g2,g3,g4,g5,decide_true,decide_false,Bool.and_true,Bool.and_false,Bool.or_false,Bool.false_or,Bool.true_and]
        exact Ev.step (fun k=>by rw [F.spec_qrGiven.j2,if_neg (by simp),if_pos g1,if_pos g2,h11,if_neg g3,if_pos g4,if_neg g5]) (hend (fun _=>none))
      ·simp only [g1,g2,g3,g4,decide_true,decide_false,Bool.and_true,Bool.and_false,Bool.or_false,Bool.false_or,Bool.true_and,Bool.false_and]
       exact Ev.step (fun k=>by rw [F.spec_qrGiven.j2,if_neg (by simp),if_pos g1,if_pos g2,h11,if_neg g3,if_neg g4]) (hend (fun _=>none))
    ·by_cases g4:c<=5
     ·by_cases g5:r≥n-11
      ·simp only [g1,g2,g4,g5,decide_true,decide_false,Bool.and_true,Bool.true_or,Bool.or_true,Bool.false_or,Bool.true_and,Bool.false_and]
       exact Ev.step (f:=fun _=>some true) (fun k=>by rw [F.spec_qrGiven.j2,if_neg (by simp),if_pos g1,if_neg g2,if_pos g4,h11,if_pos g5]) (Ev.now _)
      ·simp only [g1,g2,g4,g5,decide_true,decide_false,Bool.and_true,Bool.and_false,Bool.or_false,Bool.false_or,Bool.true_and,Bool.false_and]
       exact Ev.step (fun k=>by rw [F.spec_qrGiven.j2,if_neg (by simp),if_pos g1,if_neg g2,if_pos g4,h11,if_neg g5]) (hend (fun _=>none))
     ·simp only [g1,g2,g4,decide_true,decide_false,Bool.and_true,Bool.and_false,Bool.or_false,Bool.false_or,Bool.true_and,Bool.false_and]
      exact Ev.step (fun k=>by rw [F.spec_qrGiven.j2,if_neg (by simp),if_pos g1,if_neg g2,if_neg g4]) (hend (fun _=>none))
   ·simp only [g1,decide_false,Bool.false_and,Bool.or_false,Bool.false_or]
    exact Ev.step (fun k=>by rw [F.spec_qrGiven.j2,if_neg (by simp),if_neg g1]) (hend (fun _=>none))
 have H1:∀ b:Bool,Ev (fun k=>F.spec_qrGiven.j1 k v cs r c n b) ((b || decide (r=6) || decide (c=6)) || (decide (v≥7) && ((decide (r<=5) && decide (c≥n-11)) || (decide (c<=5) && decide (r≥n-11)))) || decide (al≥0)):=by
  intro b
  cases b with
  | true=>exact Ev.step (fun k=>by rw [F.spec_qrGiven.j1,if_pos rfl]) (H2 true)
  | false=>
   by_cases g:r=6
   ·have:=H2 (r==6)
    rw [show (r==6)=true from beq_iff_eq.2 g] at this
    rw [show (false || decide (r=6) || decide (c=6))=true from by simp [g]]
    exact Ev.step (fun k=>by rw [F.spec_qrGiven.j1,if_neg (by simp),if_pos g,show (r==6)=true from beq_iff_eq.2 g]) this
   ·have:=H2 (c==6)
    rw [show (false || decide (r=6) || decide (c=6))=(c==6) from by simp [g];rfl]
    exact Ev.step (fun k=>by rw [F.spec_qrGiven.j1,if_neg (by simp),if_neg g]) this
 have H0:∀ b:Bool,Ev (fun k=>F.spec_qrGiven.j0 k v cs r c n b) ((b || (decide (r≥n-8) && decide (c<=8)) || decide (r=6) || decide (c=6)) || (decide (v≥7) && ((decide (r<=5) && decide (c≥n-11)) || (decide (c<=5) && decide (r≥n-11)))) || decide (al≥0)):=by
  intro b
  cases b with
  | true=>exact Ev.step (fun k=>by rw [F.spec_qrGiven.j0,if_pos rfl]) (H2 true)
  | false=>
   by_cases g:r≥n-8
   ·have:=H1 (decide (c<=8))
    rw [show (false || (decide (r≥n-8) && decide (c<=8)))=decide (c<=8) from by simp [g]]
    exact Ev.step (fun k=>by rw [F.spec_qrGiven.j0,if_neg (by simp),h8,if_pos g]) this
   ·have:=H1 false
    rw [show (false || (decide (r≥n-8) && decide (c<=8)))=false from by simp [g]]
    exact Ev.step (fun k=>by rw [F.spec_qrGiven.j0,if_neg (by simp),h8,if_neg g]) this
 unfold givenP
 by_cases g1:r<=8
 ·by_cases g2:c<=8
  ·have:=H0 true
   rw [show (decide (r<=8) && (decide (c<=8) || decide (c≥n-8)))=true from by simp [g1,g2]]
   exact Ev.congr (fun k=>by rw [F.spec_qrGiven.f,hd,Option.bind_some,if_pos g1,if_pos g2]) this
  ·have:=H0 (decide (c≥n-8))
   rw [show (decide (r<=8) && (decide (c<=8) || decide (c≥n-8)))=decide (c≥n-8) from by simp [g1,g2]]
   exact Ev.congr (fun k=>by rw [F.spec_qrGiven.f,hd,Option.bind_some,if_pos g1,if_neg g2,h8]) this
 ·have:=H0 false
  rw [show (decide (r<=8) && (decide (c<=8) || decide (c≥n-8)))=false from by simp [g1]]
  exact Ev.congr (fun k=>by rw [F.spec_qrGiven.f,hd,Option.bind_some,if_neg g1]) this
end Go.Proofs.YtgccjgpdjkhpdaaGreat.B
namespace Go.Proofs.YtgccjgpdjkhpdaaGreat.F
open Go.RowKit Go.Proofs.YtgccjgpdjkhpdaaGreatW.PrintWords Go.Proofs.YtgccjgpdjkhpdaaGreatW.PrintLast Go.Proofs.YtgccjgpdjkhpdaaGreatW.PrintMore
attribute [local go_sem] max2_int min2_int max_two min_two max_three min_three max_four min_four
set_option linter.unusedVariables false
set_option linter.unusedSimpArgs false
def spec_QRFormatBits.f (k:Nat)(a0:Int)(a1:Int):Option (Int):=(spec_qrRest.f k (wrap64 ((Go.bits .or .i64 (wrap64 (a0*8)) a1)*1024)) 1335 11).bind fun t294=>(some (Go.bits .xor .i64 (Go.bits .or .i64 (wrap64 ((Go.bits .or .i64 (wrap64 (a0*8)) a1)*1024)) t294) 21522))
theorem spec_QRFormatBits.mono:∀ a0 a1 k,LeO (spec_QRFormatBits.f k a0 a1) (spec_QRFormatBits.f (k+1) a0 a1):=by
 intro a0 a1 k
 unfold spec_QRFormatBits.f
 repeat' first
   | (with_reducible exact spec_qrRest.mono _ _ _ _)
   | (with_reducible exact LeO.refl _)
   | (with_reducible exact LeO.none _)
   | (with_reducible refine LeO.ite ?_ ?_)
   | (with_reducible refine LeO.bind ?_ (fun _=>?_))
   | exact spec_qrRest.mono _ _ _ _
   | exact LeO.none _
   | refine LeO.ite ?_ ?_
   | refine LeO.bind ?_ (fun _=>?_)
set_option maxHeartbeats 8000000 in
set_option maxRecDepth 100000 in
theorem spec_QRFormatBits.calls (k:Nat)(a0:Int)(a1:Int)(r:Int)(w:World)(h:spec_QRFormatBits.f k a0 a1=some r) :
  Calls Tryz.prog 47 #[.int .i64 a0,.int .i64 a1] w fun e w'=>e=.returned (.int .i64 r)/\Drawn0 w w':=by
 have H:((spec_qrRest.f k (wrap64 ((Go.bits .or .i64 (wrap64 (a0*8)) a1)*1024)) 1335 11).bind fun t294=>(some (Go.bits .xor .i64 (Go.bits .or .i64 (wrap64 ((Go.bits .or .i64 (wrap64 (a0*8)) a1)*1024)) t294) 21522)))=some r:=h
 clear h
 replace H:=Option.bind_eq_some_iff.mp H
 obtain⟨t294,A30,H⟩:=H
 replace H:(some (Go.bits .xor .i64 (Go.bits .or .i64 (wrap64 ((Go.bits .or .i64 (wrap64 (a0*8)) a1)*1024)) t294) 21522))=some r:=H
 have A3:=Aside0.mk A30
 clear A30
 obtain rfl:=Option.some.inj H
 go_enter Tryz.func47,Tryz.ntmps47
 go_wp2_with (first | ((with_reducible refine gate_callee (f:=95) rfl ?_);refine goesL_ (some 14) rfl rfl Tryz.func95 (by kernel_rfl) rfl #[.int .i64 (wrap64 ((Go.bits .or .i64 (wrap64 (a0*8)) a1)*1024)),.int .i64 1335,.int .i64 11] rfl (by (try simp only [List.map_toArray,List.map_cons,List.map_nil]);first | done | rfl | (simp only [List.length_drop,List.length_take];rfl)) ?_;(with_reducible refine (spec_qrRest.calls k (wrap64 ((Go.bits .or .i64 (wrap64 (a0*8)) a1)*1024)) 1335 11 t294 _ A3.out).mono ?_);rintro e w' ⟨rfl,⟨nd,rfl⟩⟩;refine⟨_,rfl,?_⟩))
 go_ret
 exact⟨by first | rfl | (simp;done) | (simp [*];done),by repeat (first | exact Drawn0.refl _ | apply Drawn0.step)⟩
end Go.Proofs.YtgccjgpdjkhpdaaGreat.F
