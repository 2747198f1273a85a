import Derived.Test.YtgccjgpdjkhpdaaGreatVQ3
/-! Own texts of this claim, part 17. -/
namespace Go.Proofs.YtgccjgpdjkhpdaaGreat.F
open Go.RowKit Go.Proofs.YtgccjgpdjkhpdaaGreatW.PrintWords Go.Proofs.YtgccjgpdjkhpdaaGreatW.PrintLast Go.Proofs.YtgccjgpdjkhpdaaGreatW.PrintMore
attribute [local go_sem] max2_int min2_int max_two min_two max_three min_three max_four min_four
set_option linter.unusedVariables false
set_option linter.unusedSimpArgs false
mutual
def spec_qrFormatAt.j0:Nat->Int->Int->Int->Bool->Option (Int)
 | 0,_,_,_,_=>none
 | k+1,x0,x1,x2,x7=>if x7=true then (some x1) else (if x2=8 then (spec_qrFormatAt.j1 k x0 x1 x2 (x1==7)) else (spec_qrFormatAt.j1 k x0 x1 x2 false))
def spec_qrFormatAt.j1:Nat->Int->Int->Int->Bool->Option (Int)
 | 0,_,_,_,_=>none
 | k+1,x0,x1,x2,x15=>if x15=true then (some 6) else (if x2=8 then (spec_qrFormatAt.j2 k x0 x1 x2 (x1==8)) else (spec_qrFormatAt.j2 k x0 x1 x2 false))
def spec_qrFormatAt.j2:Nat->Int->Int->Int->Bool->Option (Int)
 | 0,_,_,_,_=>none
 | k+1,x0,x1,x2,x22=>if x22=true then (some 7) else (if x1=8 then (spec_qrFormatAt.j3 k x0 x1 x2 (x2==7)) else (spec_qrFormatAt.j3 k x0 x1 x2 false))
def spec_qrFormatAt.j3:Nat->Int->Int->Int->Bool->Option (Int)
 | 0,_,_,_,_=>none
 | k+1,x0,x1,x2,x29=>if x29=true then (some 8) else (if x1=8 then (spec_qrFormatAt.j4 k x0 x1 x2 (decide (x2<=5))) else (spec_qrFormatAt.j4 k x0 x1 x2 false))
def spec_qrFormatAt.j4:Nat->Int->Int->Int->Bool->Option (Int)
 | 0,_,_,_,_=>none
 | k+1,x0,x1,x2,x36=>if x36=true then (some (wrap64 (14-x2))) else (if x1=8 then (spec_qrFormatAt.j5 k x0 x1 x2 (decide (x2≥(wrap64 (x0-8))))) else (spec_qrFormatAt.j5 k x0 x1 x2 false))
def spec_qrFormatAt.j5:Nat->Int->Int->Int->Bool->Option (Int)
 | 0,_,_,_,_=>none
 | k+1,x0,x1,x2,x45=>if x45=true then (some (wrap64 ((wrap64 (x0-1))-x2))) else (if x2=8 then (if x1≥(wrap64 (x0-7)) then (some (wrap64 ((wrap64 (x1-x0))+15))) else (some (-1))) else (some (-1)))
end
def spec_qrFormatAt.f (k:Nat)(a0:Int)(a1:Int)(a2:Int):Option (Int):=if a2=8 then (spec_qrFormatAt.j0 k a0 a1 a2 (decide (a1<=5))) else (spec_qrFormatAt.j0 k a0 a1 a2 false)
theorem spec_qrFormatAt.mono_l:∀ k,(∀ y0 y1 y2 y3,LeO (spec_qrFormatAt.j0 k y0 y1 y2 y3) (spec_qrFormatAt.j0 (k+1) y0 y1 y2 y3))/\(∀ y0 y1 y2 y3,LeO (spec_qrFormatAt.j1 k y0 y1 y2 y3) (spec_qrFormatAt.j1 (k+1) y0 y1 y2 y3))/\(∀ y0 y1 y2 y3,LeO (spec_qrFormatAt.j2 k y0 y1 y2 y3) (spec_qrFormatAt.j2 (k+1) y0 y1 y2 y3))/\(∀ y0 y1 y2 y3,LeO (spec_qrFormatAt.j3 k y0 y1 y2 y3) (spec_qrFormatAt.j3 (k+1) y0 y1 y2 y3))/\(∀ y0 y1 y2 y3,LeO (spec_qrFormatAt.j4 k y0 y1 y2 y3) (spec_qrFormatAt.j4 (k+1) y0 y1 y2 y3))/\(∀ y0 y1 y2 y3,LeO (spec_qrFormatAt.j5 k y0 y1 y2 y3) (spec_qrFormatAt.j5 (k+1) y0 y1 y2 y3))
 | 0=>⟨fun _ _ _ _ r h=>by simp [spec_qrFormatAt.j0] at h,fun _ _ _ _ r h=>by simp [spec_qrFormatAt.j1] at h,fun _ _ _ _ r h=>by simp [spec_qrFormatAt.j2] at h,fun _ _ _ _ r h=>by simp [spec_qrFormatAt.j3] at h,fun _ _ _ _ r h=>by simp [spec_qrFormatAt.j4] at h,fun _ _ _ _ r h=>by simp [spec_qrFormatAt.j5] at h⟩
 | k+1=>by
  obtain⟨ih0,ih1,ih2,ih3,ih4,ih5⟩:=spec_qrFormatAt.mono_l k
  refine⟨?_,?_,?_,?_,?_,?_⟩
  ·intro y0 y1 y2 y3
   unfold spec_qrFormatAt.j0
   repeat' first
   | (with_reducible exact ih0 _ _ _ _)
   | (with_reducible exact ih1 _ _ _ _)
   | (with_reducible exact ih2 _ _ _ _)
   | (with_reducible exact ih3 _ _ _ _)
   | (with_reducible exact ih4 _ _ _ _)
   | (with_reducible exact ih5 _ _ _ _)
   | (with_reducible exact LeO.refl _)
   | (with_reducible exact LeO.none _)
   | (with_reducible refine LeO.ite ?_ ?_)
   | (with_reducible refine LeO.bind ?_ (fun _=>?_))
   | exact ih0 _ _ _ _
   | exact ih1 _ _ _ _
   | exact ih2 _ _ _ _
   | exact ih3 _ _ _ _
   | exact ih4 _ _ _ _
   | exact ih5 _ _ _ _
   | exact LeO.none _
   | refine LeO.ite ?_ ?_
   | refine LeO.bind ?_ (fun _=>?_)
  ·intro y0 y1 y2 y3
   unfold spec_qrFormatAt.j1
   repeat' first
   | (with_reducible exact ih0 _ _ _ _)
   | (with_reducible exact ih1 _ _ _ _)
   | (with_reducible exact ih2 _ _ _ _)
   | (with_reducible exact ih3 _ _ _ _)
   | (with_reducible exact ih4 _ _ _ _)
   | (with_reducible exact ih5 _ _ _ _)
   | (with_reducible exact LeO.refl _)
   | (with_reducible exact LeO.none _)
   | (with_reducible refine LeO.ite ?_ ?_)
   | (with_reducible refine LeO.bind ?_ (fun _=>?_))
   | exact ih0 _ _ _ _
   | exact ih1 _ _ _ _
   | exact ih2 _ _ _ _
   | exact ih3 _ _ _ _
   | exact ih4 _ _ _ _
   | exact ih5 _ _ _ _
   | exact LeO.none _
   | refine LeO.ite ?_ ?_
   | refine LeO.bind ?_ (fun _=>?_)
  ·intro y0 y1 y2 y3
   unfold spec_qrFormatAt.j2
   repeat' first
   | (with_reducible exact ih0 _ _ _ _)
   | (with_reducible exact ih1 _ _ _ _)
   | (with_reducible exact ih2 _ _ _ _)
   | (with_reducible exact ih3 _ _ _ _)
   | (with_reducible exact ih4 _ _ _ _)
   | (with_reducible exact ih5 _ _ _ _)
   | (with_reducible exact LeO.refl _)
   | (with_reducible exact LeO.none _)
   | (with_reducible refine LeO.ite ?_ ?_)
   | (with_reducible refine LeO.bind ?_ (fun _=>?_))
   | exact ih0 _ _ _ _
   | exact ih1 _ _ _ _
   | exact ih2 _ _ _ _
   | exact ih3 _ _ _ _
   | exact ih4 _ _ _ _
   | exact ih5 _ _ _ _
   | exact LeO.none _
   | refine LeO.ite ?_ ?_
   | refine LeO.bind ?_ (fun _=>?_)
  ·intro y0 y1 y2 y3
   unfold spec_qrFormatAt.j3
   repeat' first
   | (with_reducible exact ih0 _ _ _ _)
   | (with_reducible exact ih1 _ _ _ _)
   | (with_reducible exact ih2 _ _ _ _)
   | (with_reducible exact ih3 _ _ _ _)
   | (with_reducible exact ih4 _ _ _ _)
   | (with_reducible exact ih5 _ _ _ _)
   | (with_reducible exact LeO.refl _)
   | (with_reducible exact LeO.none _)
   | (with_reducible refine LeO.ite ?_ ?_)
   | (with_reducible refine LeO.bind ?_ (fun _=>?_))
   | exact ih0 _ _ _ _
   | exact ih1 _ _ _ _
   | exact ih2 _ _ _ _
   | exact ih3 _ _ _ _
   | exact ih4 _ _ _ _
   | exact ih5 _ _ _ _
   | exact LeO.none _
   | refine LeO.ite ?_ ?_
   | refine LeO.bind ?_ (fun _=>?_)
  ·intro y0 y1 y2 y3
   unfold spec_qrFormatAt.j4
   repeat' first
   | (with_reducible exact ih0 _ _ _ _)
   | (with_reducible exact ih1 _ _ _ _)
   | (with_reducible exact ih2 _ _ _ _)
   | (with_reducible exact ih3 _ _ _ _)
   | (with_reducible exact ih4 _ _ _ _)
   | (with_reducible exact ih5 _ _ _ _)
   | (with_reducible exact LeO.refl _)
   | (with_reducible exact LeO.none _)
   | (with_reducible refine LeO.ite ?_ ?_)
   | (with_reducible refine LeO.bind ?_ (fun _=>?_))
   | exact ih0 _ _ _ _
   | exact ih1 _ _ _ _
   | exact ih2 _ _ _ _
   | exact ih3 _ _ _ _
   | exact ih4 _ _ _ _
   | exact ih5 _ _ _ _
   | exact LeO.none _
   | refine LeO.ite ?_ ?_
   | refine LeO.bind ?_ (fun _=>?_)
  ·intro y0 y1 y2 y3
   unfold spec_qrFormatAt.j5
   repeat' first
   | (with_reducible exact ih0 _ _ _ _)
   | (with_reducible exact ih1 _ _ _ _)
   | (with_reducible exact ih2 _ _ _ _)
   | (with_reducible exact ih3 _ _ _ _)
   | (with_reducible exact ih4 _ _ _ _)
   | (with_reducible exact ih5 _ _ _ _)
   | (with_reducible exact LeO.refl _)
   | (with_reducible exact LeO.none _)
   | (with_reducible refine LeO.ite ?_ ?_)
   | (with_reducible refine LeO.bind ?_ (fun _=>?_))
   | exact ih0 _ _ _ _
   | exact ih1 _ _ _ _
   | exact ih2 _ _ _ _
   | exact ih3 _ _ _ _
   | exact ih4 _ _ _ _
   | exact ih5 _ _ _ _
   | exact LeO.none _
   | refine LeO.ite ?_ ?_
   | refine LeO.bind ?_ (fun _=>?_)
theorem spec_qrFormatAt.mono:∀ a0 a1 a2 k,LeO (spec_qrFormatAt.f k a0 a1 a2) (spec_qrFormatAt.f (k+1) a0 a1 a2):=by
 intro a0 a1 a2 k
 obtain⟨ih0,ih1,ih2,ih3,ih4,ih5⟩:=spec_qrFormatAt.mono_l k
 unfold spec_qrFormatAt.f
 repeat' first
   | (with_reducible exact ih0 _ _ _ _)
   | (with_reducible exact ih1 _ _ _ _)
   | (with_reducible exact ih2 _ _ _ _)
   | (with_reducible exact ih3 _ _ _ _)
   | (with_reducible exact ih4 _ _ _ _)
   | (with_reducible exact ih5 _ _ _ _)
   | (with_reducible exact LeO.refl _)
   | (with_reducible exact LeO.none _)
   | (with_reducible refine LeO.ite ?_ ?_)
   | (with_reducible refine LeO.bind ?_ (fun _=>?_))
   | exact ih0 _ _ _ _
   | exact ih1 _ _ _ _
   | exact ih2 _ _ _ _
   | exact ih3 _ _ _ _
   | exact ih4 _ _ _ _
   | exact ih5 _ _ _ _
   | exact LeO.none _
   | refine LeO.ite ?_ ?_
   | refine LeO.bind ?_ (fun _=>?_)
set_option maxHeartbeats 8000000 in
set_option maxRecDepth 100000 in
theorem spec_qrFormatAt.calls (k:Nat)(a0:Int)(a1:Int)(a2:Int)(r:Int)(w:World)(h:spec_qrFormatAt.f k a0 a1 a2=some r) :
  Calls Tryz.prog 97 #[.int .i64 a0,.int .i64 a1,.int .i64 a2] w fun e w'=>e=.returned (.int .i64 r)/\Drawn0 w w':=by
 have H:(if a2=8 then (spec_qrFormatAt.j0 k a0 a1 a2 (decide (a1<=5))) else (spec_qrFormatAt.j0 k a0 a1 a2 false))=some r:=h
 clear h
 have HC4:=Aside0.mk H
 clear H
 go_enter Tryz.func97,Tryz.ntmps97
 go_upto_region 1 with (fail)
 go_cut [7] (fun v7 wc=>∃ (kq:Nat) (x7_3:Bool),v7=.bool x7_3/\Aside0 (spec_qrFormatAt.j0 kq a0 a1 a2 x7_3=some r)/\Aside0 (kq<=k)/\Drawn0 w wc)
 case first=>
  have H:=HC4.out
  clear HC4
  by_cases c5:a2=8
  ·rw [if_pos c5] at H
   have c5b0:(a2==8)=true:=beq_iff_eq.mpr c5
   have c5b1:(a2 != 8)=false:=bne_eq_false_iff_eq.mpr c5
   clear c5
   (first | rw [c5b0] | (simp only [i64_w,i32_w];rw [c5b0]) | skip)
   have H':=Aside0.mk H
   clear H
   go_wp2
   go_meet
   case rel=>exact⟨_,(decide (a1<=5)),(by first | rfl | (simp;done) | (simp [*];done)),H',⟨by first | omega | exact Nat.le_refl _⟩,by repeat (first | exact Drawn0.refl _ | apply Drawn0.step)⟩
  ·rw [if_neg c5] at H
   have c5b0:(a2==8)=false:=beq_eq_false_iff_ne.mpr c5
   have c5b1:(a2 != 8)=true:=bne_iff_ne.mpr c5
   (first | rw [c5b0] | (simp only [i64_w,i32_w];rw [c5b0]) | skip)
   have H':=Aside0.mk H
   clear H
   go_wp2
   go_meet
   case rel=>exact⟨_,(false),(by first | rfl | (simp;done) | (simp [*];done)),H',⟨by first | omega | exact Nat.le_refl _⟩,by repeat (first | exact Drawn0.refl _ | apply Drawn0.step)⟩
 case rest=>
  clear HC4
  try clear p2
  try clear c5
  try clear c5b0
  try clear c5b1
  obtain⟨kq,x7_3,rfl,HA,HJ3,⟨mc3,rfl⟩⟩:=hcut
  cases kq with
  | zero=>exact absurd HA.out (by simp [spec_qrFormatAt.j0])
  | succ kj3=>
   have H:=HA.out
   clear HA
   simp only [spec_qrFormatAt.j0] at H
   by_cases c6:x7_3=true
   ·subst c6
    have H1:(some a1)=some r:=by rw [if_pos rfl] at H;exact H
    clear H
    have H:=H1
    clear H1
    obtain rfl:=Option.some.inj H
    go_wp2
    go_ret
    exact⟨by first | rfl | (simp;done) | (simp [*];done),by repeat (first | exact Drawn0.refl _ | apply Drawn0.step)⟩
   ·replace c6:=Bool.eq_false_iff.mpr c6
    subst c6
    have H1:(if a2=8 then (spec_qrFormatAt.j1 kj3 a0 a1 a2 (a1==7)) else (spec_qrFormatAt.j1 kj3 a0 a1 a2 false))=some r:=by rw [if_neg (show ¬ (false=true) by decide)] at H;exact H
    clear H
    have H:=H1
    clear H1
    have HC7:=Aside0.mk H
    clear H
    go_upto_region 3 with (fail)
    go_cut [15] (fun v15 wc=>∃ (kq:Nat) (x15_6:Bool),v15=.bool x15_6/\Aside0 (spec_qrFormatAt.j1 kq a0 a1 a2 x15_6=some r)/\Aside0 (kq<=kj3)/\Drawn0 w wc)
    case first=>
     have H:=HC7.out
     clear HC7
     by_cases c8:a2=8
     ·rw [if_pos c8] at H
      have c8b0:(a2==8)=true:=beq_iff_eq.mpr c8
      have c8b1:(a2 != 8)=false:=bne_eq_false_iff_eq.mpr c8
      clear c8
      (first | rw [c8b0] | (simp only [i64_w,i32_w];rw [c8b0]) | skip)
      have H':=Aside0.mk H
      clear H
      go_wp2
      go_meet
      case rel=>exact⟨_,((a1==7)),(by first | rfl | (simp;done) | (simp [*];done)),H',⟨by have:=HJ3.out;first | omega | exact Nat.le_refl _⟩,by repeat (first | exact Drawn0.refl _ | apply Drawn0.step)⟩
     ·rw [if_neg c8] at H
      have c8b0:(a2==8)=false:=beq_eq_false_iff_ne.mpr c8
      have c8b1:(a2 != 8)=true:=bne_iff_ne.mpr c8
      (first | rw [c8b0] | (simp only [i64_w,i32_w];rw [c8b0]) | skip)
      have H':=Aside0.mk H
      clear H
      go_wp2
      go_meet
      case rel=>exact⟨_,(false),(by first | rfl | (simp;done) | (simp [*];done)),H',⟨by have:=HJ3.out;first | omega | exact Nat.le_refl _⟩,by repeat (first | exact Drawn0.refl _ | apply Drawn0.step)⟩
    case rest=>
     clear HC7
     try clear p2
     try clear c3
     try clear c5
     try clear c5b0
     try clear c5b1
     try clear c6
     try clear c8
     try clear c8b0
     try clear c8b1
     try clear p2
     obtain⟨kq,x15_6,rfl,HA,HJ6,⟨mc6,rfl⟩⟩:=hcut
     cases kq with
     | zero=>exact absurd HA.out (by simp [spec_qrFormatAt.j1])
     | succ kj6=>
      have H:=HA.out
      clear HA
      simp only [spec_qrFormatAt.j1] at H
      by_cases c9:x15_6=true
      ·subst c9
       have H1:(some 6)=some r:=by rw [if_pos rfl] at H;exact H
       clear H
       have H:=H1
       clear H1
       obtain rfl:=Option.some.inj H
       go_wp2
       go_ret
       exact⟨by first | rfl | (simp;done) | (simp [*];done),by repeat (first | exact Drawn0.refl _ | apply Drawn0.step)⟩
      ·replace c9:=Bool.eq_false_iff.mpr c9
       subst c9
       have H1:(if a2=8 then (spec_qrFormatAt.j2 kj6 a0 a1 a2 (a1==8)) else (spec_qrFormatAt.j2 kj6 a0 a1 a2 false))=some r:=by rw [if_neg (show ¬ (false=true) by decide)] at H;exact H
       clear H
       have H:=H1
       clear H1
       have HC10:=Aside0.mk H
       clear H
       go_upto_region 5 with (fail)
       go_cut [22] (fun v22 wc=>∃ (kq:Nat) (x22_9:Bool),v22=.bool x22_9/\Aside0 (spec_qrFormatAt.j2 kq a0 a1 a2 x22_9=some r)/\Aside0 (kq<=kj6)/\Drawn0 w wc)
       case first=>
        have H:=HC10.out
        clear HC10
        by_cases c11:a2=8
        ·rw [if_pos c11] at H
         have c11b0:(a2==8)=true:=beq_iff_eq.mpr c11
         have c11b1:(a2 != 8)=false:=bne_eq_false_iff_eq.mpr c11
         clear c11
         (first | rw [c11b0] | (simp only [i64_w,i32_w];rw [c11b0]) | skip)
         have H':=Aside0.mk H
         clear H
         go_wp2
         go_meet
         case rel=>exact⟨_,((a1==8)),(by first | rfl | (simp;done) | (simp [*];done)),H',⟨by have:=HJ3.out;have:=HJ6.out;first | omega | exact Nat.le_refl _⟩,by repeat (first | exact Drawn0.refl _ | apply Drawn0.step)⟩
        ·rw [if_neg c11] at H
         have c11b0:(a2==8)=false:=beq_eq_false_iff_ne.mpr c11
         have c11b1:(a2 != 8)=true:=bne_iff_ne.mpr c11
         (first | rw [c11b0] | (simp only [i64_w,i32_w];rw [c11b0]) | skip)
         have H':=Aside0.mk H
         clear H
         go_wp2
         go_meet
         case rel=>exact⟨_,(false),(by first | rfl | (simp;done) | (simp [*];done)),H',⟨by have:=HJ3.out;have:=HJ6.out;first | omega | exact Nat.le_refl _⟩,by repeat (first | exact Drawn0.refl _ | apply Drawn0.step)⟩
       case rest=>
        clear HC10
        try clear c1
        try clear p2
        try clear c3
        try clear c5
        try clear c5b0
        try clear c5b1
        try clear c6
        try clear c8
        try clear c8b0
        try clear c8b1
        try clear c9
        try clear c11
        try clear c11b0
        try clear c11b1
        try clear p2
        obtain⟨kq,x22_9,rfl,HA,HJ9,⟨mc9,rfl⟩⟩:=hcut
        cases kq with
        | zero=>exact absurd HA.out (by simp [spec_qrFormatAt.j2])
        | succ kj9=>
         have H:=HA.out
         clear HA
         simp only [spec_qrFormatAt.j2] at H
         by_cases c12:x22_9=true
         ·subst c12
          have H1:(some 7)=some r:=by rw [if_pos rfl] at H;exact H
          clear H
          have H:=H1
          clear H1
          obtain rfl:=Option.some.inj H
          go_wp2
          go_ret
          exact⟨by first | rfl | (simp;done) | (simp [*];done),by repeat (first | exact Drawn0.refl _ | apply Drawn0.step)⟩
         ·replace c12:=Bool.eq_false_iff.mpr c12
          subst c12
          have H1:(if a1=8 then (spec_qrFormatAt.j3 kj9 a0 a1 a2 (a2==7)) else (spec_qrFormatAt.j3 kj9 a0 a1 a2 false))=some r:=by rw [if_neg (show ¬ (false=true) by decide)] at H;exact H
          clear H
          have H:=H1
          clear H1
          have HC13:=Aside0.mk H
          clear H
          go_upto_region 7 with (fail)
          go_cut [29] (fun v29 wc=>∃ (kq:Nat) (x29_12:Bool),v29=.bool x29_12/\Aside0 (spec_qrFormatAt.j3 kq a0 a1 a2 x29_12=some r)/\Aside0 (kq<=kj9)/\Drawn0 w wc)
          case first=>
           have H:=HC13.out
           clear HC13
           by_cases c14:a1=8
           ·rw [if_pos c14] at H
            have c14b0:(a1==8)=true:=beq_iff_eq.mpr c14
            have c14b1:(a1 != 8)=false:=bne_eq_false_iff_eq.mpr c14
            clear c14
            (first | rw [c14b0] | (simp only [i64_w,i32_w];rw [c14b0]) | skip)
            have H':=Aside0.mk H
            clear H
            go_wp2
            go_meet
            case rel=>exact⟨_,((a2==7)),(by first | rfl | (simp;done) | (simp [*];done)),H',⟨by have:=HJ3.out;have:=HJ6.out;have:=HJ9.out;first | omega | exact Nat.le_refl _⟩,by repeat (first | exact Drawn0.refl _ | apply Drawn0.step)⟩
           ·rw [if_neg c14] at H
            have c14b0:(a1==8)=false:=beq_eq_false_iff_ne.mpr c14
            have c14b1:(a1 != 8)=true:=bne_iff_ne.mpr c14
            (first | rw [c14b0] | (simp only [i64_w,i32_w];rw [c14b0]) | skip)
            have H':=Aside0.mk H
            clear H
            go_wp2
            go_meet
            case rel=>exact⟨_,(false),(by first | rfl | (simp;done) | (simp [*];done)),H',⟨by have:=HJ3.out;have:=HJ6.out;have:=HJ9.out;first | omega | exact Nat.le_refl _⟩,by repeat (first | exact Drawn0.refl _ | apply Drawn0.step)⟩
          case rest=>
           clear HC13
           try clear c1
           try clear p2
           try clear c3
           try clear c5
           try clear c5b0
           try clear c5b1
           try clear c6
           try clear c8
           try clear c8b0
           try clear c8b1
           try clear c9
           try clear c11
           try clear c11b0
           try clear c11b1
           try clear c12
           try clear c14
           try clear c14b0
           try clear c14b1
           try clear p2
           obtain⟨kq,x29_12,rfl,HA,HJ12,⟨mc12,rfl⟩⟩:=hcut
           cases kq with
           | zero=>exact absurd HA.out (by simp [spec_qrFormatAt.j3])
           | succ kj12=>
            have H:=HA.out
            clear HA
            simp only [spec_qrFormatAt.j3] at H
            by_cases c15:x29_12=true
            ·subst c15
             have H1:(some 8)=some r:=by rw [if_pos rfl] at H;exact H
             clear H
             have H:=H1
             clear H1
             obtain rfl:=Option.some.inj H
             go_wp2
             go_ret
             exact⟨by first | rfl | (simp;done) | (simp [*];done),by repeat (first | exact Drawn0.refl _ | apply Drawn0.step)⟩
            ·replace c15:=Bool.eq_false_iff.mpr c15
             subst c15
             have H1:(if a1=8 then (spec_qrFormatAt.j4 kj12 a0 a1 a2 (decide (a2<=5))) else (spec_qrFormatAt.j4 kj12 a0 a1 a2 false))=some r:=by rw [if_neg (show ¬ (false=true) by decide)] at H;exact H
             clear H
             have H:=H1
             clear H1
             have HC16:=Aside0.mk H
             clear H
             go_upto_region 9 with (fail)
             go_cut [36] (fun v36 wc=>∃ (kq:Nat) (x36_15:Bool),v36=.bool x36_15/\Aside0 (spec_qrFormatAt.j4 kq a0 a1 a2 x36_15=some r)/\Aside0 (kq<=kj12)/\Drawn0 w wc)
             case first=>
              have H:=HC16.out
              clear HC16
              by_cases c17:a1=8
              ·rw [if_pos c17] at H
               have c17b0:(a1==8)=true:=beq_iff_eq.mpr c17
               have c17b1:(a1 != 8)=false:=bne_eq_false_iff_eq.mpr c17
               clear c17
               (first | rw [c17b0] | (simp only [i64_w,i32_w];rw [c17b0]) | skip)
               have H':=Aside0.mk H
               clear H
               go_wp2
               go_meet
               case rel=>exact⟨_,(decide (a2<=5)),(by first | rfl | (simp;done) | (simp [*];done)),H',⟨by have:=HJ3.out;have:=HJ6.out;have:=HJ9.out;have:=HJ12.out;first | omega | exact Nat.le_refl _⟩,by repeat (first | exact Drawn0.refl _ | apply Drawn0.step)⟩
              ·rw [if_neg c17] at H
               have c17b0:(a1==8)=false:=beq_eq_false_iff_ne.mpr c17
               have c17b1:(a1 != 8)=true:=bne_iff_ne.mpr c17
               (first | rw [c17b0] | (simp only [i64_w,i32_w];rw [c17b0]) | skip)
               have H':=Aside0.mk H
               clear H
               go_wp2
               go_meet
               case rel=>exact⟨_,(false),(by first | rfl | (simp;done) | (simp [*];done)),H',⟨by have:=HJ3.out;have:=HJ6.out;have:=HJ9.out;have:=HJ12.out;first | omega | exact Nat.le_refl _⟩,by repeat (first | exact Drawn0.refl _ | apply Drawn0.step)⟩
             case rest=>
              clear HC16
              try clear c1
              try clear p2
              try clear c3
              try clear c5
              try clear c5b0
              try clear c5b1
              try clear c6
              try clear c8
              try clear c8b0
              try clear c8b1
              try clear c9
              try clear c11
              try clear c11b0
              try clear c11b1
              try clear c12
              try clear c14
              try clear c14b0
              try clear c14b1
              try clear c15
              try clear c17
              try clear c17b0
              try clear c17b1
              try clear p2
              obtain⟨kq,x36_15,rfl,HA,HJ15,⟨mc15,rfl⟩⟩:=hcut
              cases kq with
              | zero=>exact absurd HA.out (by simp [spec_qrFormatAt.j4])
              | succ kj15=>
               have H:=HA.out
               clear HA
               simp only [spec_qrFormatAt.j4] at H
               by_cases c18:x36_15=true
               ·subst c18
                have H1:(some (wrap64 (14-a2)))=some r:=by rw [if_pos rfl] at H;exact H
                clear H
                have H:=H1
                clear H1
                obtain rfl:=Option.some.inj H
                go_wp2
                go_ret
                exact⟨by first | rfl | (simp;done) | (simp [*];done),by repeat (first | exact Drawn0.refl _ | apply Drawn0.step)⟩
               ·replace c18:=Bool.eq_false_iff.mpr c18
                subst c18
                have H1:(if a1=8 then (spec_qrFormatAt.j5 kj15 a0 a1 a2 (decide (a2≥(wrap64 (a0-8))))) else (spec_qrFormatAt.j5 kj15 a0 a1 a2 false))=some r:=by rw [if_neg (show ¬ (false=true) by decide)] at H;exact H
                clear H
                have H:=H1
                clear H1
                have HC19:=Aside0.mk H
                clear H
                go_upto_region 11 with (fail)
                go_cut [45] (fun v45 wc=>∃ (kq:Nat) (x45_18:Bool),v45=.bool x45_18/\Aside0 (spec_qrFormatAt.j5 kq a0 a1 a2 x45_18=some r)/\Aside0 (kq<=kj15)/\Drawn0 w wc)
                case first=>
                 have H:=HC19.out
                 clear HC19
                 by_cases c20:a1=8
                 ·rw [if_pos c20] at H
                  have c20b0:(a1==8)=true:=beq_iff_eq.mpr c20
                  have c20b1:(a1 != 8)=false:=bne_eq_false_iff_eq.mpr c20
                  clear c20
                  (first | rw [c20b0] | (simp only [i64_w,i32_w];rw [c20b0]) | skip)
                  have H':=Aside0.mk H
                  clear H
                  go_wp2
                  go_meet
                  case rel=>exact⟨_,(decide (a2≥(wrap64 (a0-8)))),(by first | rfl | (simp;done) | (simp [*];done)),H',⟨by have:=HJ3.out;have:=HJ6.out;have:=HJ9.out;have:=HJ12.out;have:=HJ15.out;first | omega | exact Nat.le_refl _⟩,by repeat (first | exact Drawn0.refl _ | apply Drawn0.step)⟩
                 ·rw [if_neg c20] at H
                  have c20b0:(a1==8)=false:=beq_eq_false_iff_ne.mpr c20
                  have c20b1:(a1 != 8)=true:=bne_iff_ne.mpr c20
                  (first | rw [c20b0] | (simp only [i64_w,i32_w];rw [c20b0]) | skip)
                  have H':=Aside0.mk H
                  clear H
                  go_wp2
                  go_meet
                  case rel=>exact⟨_,(false),(by first | rfl | (simp;done) | (simp [*];done)),H',⟨by have:=HJ3.out;have:=HJ6.out;have:=HJ9.out;have:=HJ12.out;have:=HJ15.out;first | omega | exact Nat.le_refl _⟩,by repeat (first | exact Drawn0.refl _ | apply Drawn0.step)⟩
                case rest=>
                 clear HC19
                 try clear c1
                 try clear c2
                 try clear p2
                 try clear c3
                 try clear c5
                 try clear c5b0
                 try clear c5b1
                 try clear c6
                 try clear p6
                 try clear c8
                 try clear c8b0
                 try clear c8b1
                 try clear c9
                 try clear c11
                 try clear c11b0
                 try clear c11b1
                 try clear c12
                 try clear c14
                 try clear c14b0
                 try clear c14b1
                 try clear c15
                 try clear c17
                 try clear c17b0
                 try clear c17b1
                 try clear c18
                 try clear c20
                 try clear c20b0
                 try clear c20b1
                 try clear p2
                 obtain⟨kq,x45_18,rfl,HA,HJ18,⟨mc18,rfl⟩⟩:=hcut
                 cases kq with
                 | zero=>exact absurd HA.out (by simp [spec_qrFormatAt.j5])
                 | succ kj18=>
                  have H:=HA.out
                  clear HA
                  simp only [spec_qrFormatAt.j5] at H
                  by_cases c21:x45_18=true
                  ·subst c21
                   have H1:(some (wrap64 ((wrap64 (a0-1))-a2)))=some r:=by rw [if_pos rfl] at H;exact H
                   clear H
                   have H:=H1
                   clear H1
                   obtain rfl:=Option.some.inj H
                   go_wp2
                   go_ret
                   exact⟨by first | rfl | (simp;done) | (simp [*];done),by repeat (first | exact Drawn0.refl _ | apply Drawn0.step)⟩
                  ·replace c21:=Bool.eq_false_iff.mpr c21
                   subst c21
                   have H1:(if a2=8 then (if a1≥(wrap64 (a0-7)) then (some (wrap64 ((wrap64 (a1-a0))+15))) else (some (-1))) else (some (-1)))=some r:=by rw [if_neg (show ¬ (false=true) by decide)] at H;exact H
                   clear H
                   have H:=H1
                   clear H1
                   by_cases c22:a2=8
                   ·rw [if_pos c22] at H
                    have c22b0:(a2==8)=true:=beq_iff_eq.mpr c22
                    have c22b1:(a2 != 8)=false:=bne_eq_false_iff_eq.mpr c22
                    clear c22
                    by_cases c23:a1≥(wrap64 (a0-7))
                    ·rw [if_pos c23] at H
                     have c23b0:decide ((wrap64 (a0-7))<=a1)=true:=decide_eq_true c23
                     clear c23
                     obtain rfl:=Option.some.inj H
                     go_wp2
                     go_ret
                     exact⟨by first | rfl | (simp;done) | (simp [*];done),by repeat (first | exact Drawn0.refl _ | apply Drawn0.step)⟩
                    ·rw [if_neg c23] at H
                     have c23b0:decide ((wrap64 (a0-7))<=a1)=false:=decide_eq_false c23
                     clear c23
                     obtain rfl:=Option.some.inj H
                     go_wp2
                     go_ret
                     exact⟨by first | rfl | (simp;done) | (simp [*];done),by repeat (first | exact Drawn0.refl _ | apply Drawn0.step)⟩
                   ·rw [if_neg c22] at H
                    have c22b0:(a2==8)=false:=beq_eq_false_iff_ne.mpr c22
                    have c22b1:(a2 != 8)=true:=bne_iff_ne.mpr c22
                    obtain rfl:=Option.some.inj H
                    go_wp2
                    go_ret
                    exact⟨by first | rfl | (simp;done) | (simp [*];done),by repeat (first | exact Drawn0.refl _ | apply Drawn0.step)⟩
end Go.Proofs.YtgccjgpdjkhpdaaGreat.F
