import Derived.Test.YtgccjgpdjkhpdaaGreatVErrors2
open Go.Proofs.YtgccjgpdjkhpdaaGreatW.PrintWords.Aside0 renaming mk→Mw
/-! Own texts of this claim, part 11. -/
namespace Go.Proofs.YtgccjgpdjkhpdaaGreat.F
open Go.RowKit Go.Proofs.YtgccjgpdjkhpdaaGreatW.PrintWords Go.Proofs.YtgccjgpdjkhpdaaGreatW.PrintLast Go.Proofs.YtgccjgpdjkhpdaaGreatW.PrintMore
attribute [local go_sem] fB fC fD fE fF fG fH fI
set_option linter.unusedVariables false
set_option linter.unusedSimpArgs false
mutual
def am.j0:Nat->Int->Int->Int->Bool->Option (Int)
 | 0,_,_,_,_=>none
 | k+1,x0,x1,x2,x7=>if x7=true then (some x1) else (if x2=8 then (am.j1 k x0 x1 x2 (x1==7)) else (am.j1 k x0 x1 x2 false))
def am.j1:Nat->Int->Int->Int->Bool->Option (Int)
 | 0,_,_,_,_=>none
 | k+1,x0,x1,x2,x15=>if x15=true then (some 6) else (if x2=8 then (am.j2 k x0 x1 x2 (x1==8)) else (am.j2 k x0 x1 x2 false))
def am.j2:Nat->Int->Int->Int->Bool->Option (Int)
 | 0,_,_,_,_=>none
 | k+1,x0,x1,x2,x22=>if x22=true then (some 7) else (if x1=8 then (am.j3 k x0 x1 x2 (x2==7)) else (am.j3 k x0 x1 x2 false))
def am.j3:Nat->Int->Int->Int->Bool->Option (Int)
 | 0,_,_,_,_=>none
 | k+1,x0,x1,x2,x29=>if x29=true then (some 8) else (if x1=8 then (am.j4 k x0 x1 x2 (decide (x2<=5))) else (am.j4 k x0 x1 x2 false))
def am.j4:Nat->Int->Int->Int->Bool->Option (Int)
 | 0,_,_,_,_=>none
 | k+1,x0,x1,x2,x36=>if x36=true then (some (wrap64 (14-x2))) else (if x1=8 then (am.j5 k x0 x1 x2 (decide (x2≥(wrap64 (x0-8))))) else (am.j5 k x0 x1 x2 false))
def am.j5:Nat->Int->Int->Int->Bool->Option (Int)
 | 0,_,_,_,_=>none
 | k+1,x0,x1,x2,x45=>if x45=true then (some (wrap64 ((wrap64 (x0-1))-x2))) else (if x2=8 then (if x1≥(wrap64 (x0-7)) then (some (wrap64 ((wrap64 (x1-x0))+15))) else (some (-1))) else (some (-1)))
end
def am.f (k:Nat)(a0:Int)(a1:Int)(a2:Int):Option (Int):=if a2=8 then (am.j0 k a0 a1 a2 (decide (a1<=5))) else (am.j0 k a0 a1 a2 false)
theorem am.mono_l:∀ k,(∀ y0 y1 y2 y3,ae (am.j0 k y0 y1 y2 y3) (am.j0 (k+1) y0 y1 y2 y3))/\(∀ y0 y1 y2 y3,ae (am.j1 k y0 y1 y2 y3) (am.j1 (k+1) y0 y1 y2 y3))/\(∀ y0 y1 y2 y3,ae (am.j2 k y0 y1 y2 y3) (am.j2 (k+1) y0 y1 y2 y3))/\(∀ y0 y1 y2 y3,ae (am.j3 k y0 y1 y2 y3) (am.j3 (k+1) y0 y1 y2 y3))/\(∀ y0 y1 y2 y3,ae (am.j4 k y0 y1 y2 y3) (am.j4 (k+1) y0 y1 y2 y3))/\(∀ y0 y1 y2 y3,ae (am.j5 k y0 y1 y2 y3) (am.j5 (k+1) y0 y1 y2 y3))
 | 0=>⟨fun _ _ _ _ r h=>by simp [am.j0] at h,fun _ _ _ _ r h=>by simp [am.j1] at h,fun _ _ _ _ r h=>by simp [am.j2] at h,fun _ _ _ _ r h=>by simp [am.j3] at h,fun _ _ _ _ r h=>by simp [am.j4] at h,fun _ _ _ _ r h=>by simp [am.j5] at h⟩
 | k+1=>by
  obtain⟨ih0,ih1,ih2,ih3,ih4,ih5⟩:=am.mono_l k;refine⟨?_,?_,?_,?_,?_,?_⟩
  ·intro y0 y1 y2 y3;unfold am.j0
   repeat' first
   | (with_reducible exact ih1 _ _ _ _)
   | (with_reducible exact ae.refl _)
   | (with_reducible refine ae.ite ?_ ?_)
  ·intro y0 y1 y2 y3;unfold am.j1
   repeat' first
   | (with_reducible exact ih2 _ _ _ _)
   | (with_reducible exact ae.refl _)
   | (with_reducible refine ae.ite ?_ ?_)
  ·intro y0 y1 y2 y3;unfold am.j2
   repeat' first
   | (with_reducible exact ih3 _ _ _ _)
   | (with_reducible exact ae.refl _)
   | (with_reducible refine ae.ite ?_ ?_)
  ·intro y0 y1 y2 y3;unfold am.j3
   repeat' first
   | (with_reducible exact ih4 _ _ _ _)
   | (with_reducible exact ae.refl _)
   | (with_reducible refine ae.ite ?_ ?_)
  rotate_left
  ·intro y0 y1 y2 y3;unfold am.j5
   repeat' first
   | (with_reducible exact ae.refl _)
  intro y0 y1 y2 y3;unfold am.j4
  repeat' first
  | (with_reducible exact ih5 _ _ _ _)
  | (with_reducible exact ae.refl _)
  | (with_reducible refine ae.ite ?_ ?_)
theorem am.mono:∀ a0 a1 a2 k,ae (am.f k a0 a1 a2) (am.f (k+1) a0 a1 a2):=by
 intro a0 a1 a2 k;obtain⟨ih0,ih1,ih2,ih3,ih4,ih5⟩:=am.mono_l k;unfold am.f
 repeat' first
   | (with_reducible exact ih0 _ _ _ _)
   | (with_reducible refine ae.ite ?_ ?_)
set_option maxHeartbeats 8000000 in
set_option maxRecDepth 100000 in
theorem am.calls (k:Nat)(a0:Int)(a1:Int)(a2:Int)(r:Int)(w:World)(h:am.f k a0 a1 a2=some r) :
  Calls Tryz.prog 97 #[.int .i64 a0,.int .i64 a1,.int .i64 a2] w fun e w'=>e=.returned (.int .i64 r)/\aj w w':=by
 have H:(if a2=8 then (am.j0 k a0 a1 a2 (decide (a1<=5))) else (am.j0 k a0 a1 a2 false))=some r:=h;clear h;have HC4:=Mw H;clear H
 go_enter Tryz.func97,Tryz.ntmps97
 go_upto_region 1 with (fail)
 go_cut [7] (fun v7 wc=>∃ (kq:Nat) (x7_3:Bool),v7=.bool x7_3/\Aside0 (am.j0 kq a0 a1 a2 x7_3=some r)/\Aside0 (kq<=k)/\aj w wc)
 case first=>
  have H:=HC4.out;clear HC4;by_cases c5:a2=8;rotate_left
  ·rw [if_neg c5] at H;have c5b0:(a2==8)=false:=beq_eq_false_iff_ne.mpr c5;have c5b1:(a2 != 8)=true:=bne_iff_ne.mpr c5
   (skip)
   have H':=Mw H;clear H
   go_wp2
   go_meet
   case rel=>exact⟨_,(false),rfl,H',⟨by first | omega ⟩,by repeat (first | exact aj.refl _ )⟩
  rw [if_pos c5] at H;have c5b0:(a2==8)=true:=beq_iff_eq.mpr c5;have c5b1:(a2 != 8)=false:=bne_eq_false_iff_eq.mpr c5;clear c5
  (skip)
  have H':=Mw H;clear H
  go_wp2
  go_meet
  case rel=>exact⟨_,(decide (a1<=5)),rfl,H',⟨by first | omega ⟩,by repeat (first | exact aj.refl _ )⟩
 case rest=>
  clear HC4;obtain⟨kq,x7_3,rfl,HA,HJ3,⟨mc3,rfl⟩⟩:=hcut;cases kq with
  | zero=>exact absurd HA.out (by simp [am.j0])
  | succ kj3=>
   have H:=HA.out;clear HA;simp only [am.j0] at H;by_cases c6:x7_3=true
   ·subst c6;have H1:(some a1)=some r:=by rw [if_pos rfl] at H;exact H
    clear H;have H:=H1;clear H1;obtain rfl:=Option.some.inj H
    go_wp2
    go_ret
    exact⟨by first | rfl ,by repeat (first | exact aj.refl _ | apply aj.step)⟩
   replace c6:=Bool.eq_false_iff.mpr c6;subst c6;have H1:(if a2=8 then (am.j1 kj3 a0 a1 a2 (a1==7)) else (am.j1 kj3 a0 a1 a2 false))=some r:=by rw [if_neg (show ¬ (false=true) by decide)] at H;exact H
   clear H;have H:=H1;clear H1;have HC7:=Mw H;clear H
   go_upto_region 3 with (fail)
   go_cut [15] (fun v15 wc=>∃ (kq:Nat) (x15_6:Bool),v15=.bool x15_6/\Aside0 (am.j1 kq a0 a1 a2 x15_6=some r)/\Aside0 (kq<=kj3)/\aj w wc)
   case first=>
    have H:=HC7.out;clear HC7;by_cases c8:a2=8;rotate_left
    ·rw [if_neg c8] at H;have c8b0:(a2==8)=false:=beq_eq_false_iff_ne.mpr c8;have c8b1:(a2 != 8)=true:=bne_iff_ne.mpr c8
     (skip)
     have H':=Mw H;clear H
     go_wp2
     go_meet
     case rel=>exact⟨_,(false),rfl,H',⟨by have:=HJ3.out;first | omega ⟩,by repeat (first | exact aj.refl _ | apply aj.step)⟩
    rw [if_pos c8] at H;have c8b0:(a2==8)=true:=beq_iff_eq.mpr c8;have c8b1:(a2 != 8)=false:=bne_eq_false_iff_eq.mpr c8;clear c8
    (skip)
    have H':=Mw H;clear H
    go_wp2
    go_meet
    case rel=>exact⟨_,((a1==7)),rfl,H',⟨by have:=HJ3.out;first | omega ⟩,by repeat (first | exact aj.refl _ | apply aj.step)⟩
   case rest=>
    clear HC7;obtain⟨kq,x15_6,rfl,HA,HJ6,⟨mc6,rfl⟩⟩:=hcut;cases kq with
    | zero=>exact absurd HA.out (by simp [am.j1])
    | succ kj6=>
     have H:=HA.out;clear HA;simp only [am.j1] at H;by_cases c9:x15_6=true
     ·subst c9;have H1:(some 6)=some r:=by rw [if_pos rfl] at H;exact H
      clear H;have H:=H1;clear H1;obtain rfl:=Option.some.inj H
      go_wp2
      go_ret
      exact⟨by first | rfl ,by repeat (first | exact aj.refl _ | apply aj.step)⟩
     replace c9:=Bool.eq_false_iff.mpr c9;subst c9;have H1:(if a2=8 then (am.j2 kj6 a0 a1 a2 (a1==8)) else (am.j2 kj6 a0 a1 a2 false))=some r:=by rw [if_neg (show ¬ (false=true) by decide)] at H;exact H
     clear H;have H:=H1;clear H1;have HC10:=Mw H;clear H
     go_upto_region 5 with (fail)
     go_cut [22] (fun v22 wc=>∃ (kq:Nat) (x22_9:Bool),v22=.bool x22_9/\Aside0 (am.j2 kq a0 a1 a2 x22_9=some r)/\Aside0 (kq<=kj6)/\aj w wc)
     case first=>
      have H:=HC10.out;clear HC10;by_cases c11:a2=8;rotate_left
      ·rw [if_neg c11] at H;have c11b0:(a2==8)=false:=beq_eq_false_iff_ne.mpr c11;have c11b1:(a2 != 8)=true:=bne_iff_ne.mpr c11
       (skip)
       have H':=Mw H;clear H
       go_wp2
       go_meet
       case rel=>exact⟨_,(false),rfl,H',⟨by have:=HJ3.out;have:=HJ6.out;first | omega ⟩,by repeat (first | exact aj.refl _ | apply aj.step)⟩
      rw [if_pos c11] at H;have c11b0:(a2==8)=true:=beq_iff_eq.mpr c11;have c11b1:(a2 != 8)=false:=bne_eq_false_iff_eq.mpr c11;clear c11
      (skip)
      have H':=Mw H;clear H
      go_wp2
      go_meet
      case rel=>exact⟨_,((a1==8)),rfl,H',⟨by have:=HJ3.out;have:=HJ6.out;first | omega ⟩,by repeat (first | exact aj.refl _ | apply aj.step)⟩
     case rest=>
      clear HC10;obtain⟨kq,x22_9,rfl,HA,HJ9,⟨mc9,rfl⟩⟩:=hcut;cases kq with
      | zero=>exact absurd HA.out (by simp [am.j2])
      | succ kj9=>
       have H:=HA.out;clear HA;simp only [am.j2] at H;by_cases c12:x22_9=true
       ·subst c12;have H1:(some 7)=some r:=by rw [if_pos rfl] at H;exact H
        clear H;have H:=H1;clear H1;obtain rfl:=Option.some.inj H
        go_wp2
        go_ret
        exact⟨by first | rfl ,by repeat (first | exact aj.refl _ | apply aj.step)⟩
       replace c12:=Bool.eq_false_iff.mpr c12;subst c12;have H1:(if a1=8 then (am.j3 kj9 a0 a1 a2 (a2==7)) else (am.j3 kj9 a0 a1 a2 false))=some r:=by rw [if_neg (show ¬ (false=true) by decide)] at H;exact H
       clear H;have H:=H1;clear H1;have HC13:=Mw H;clear H
       go_upto_region 7 with (fail)
       go_cut [29] (fun v29 wc=>∃ (kq:Nat) (x29_12:Bool),v29=.bool x29_12/\Aside0 (am.j3 kq a0 a1 a2 x29_12=some r)/\Aside0 (kq<=kj9)/\aj w wc)
       case first=>
        have H:=HC13.out;clear HC13;by_cases c14:a1=8;rotate_left
        ·rw [if_neg c14] at H;have c14b0:(a1==8)=false:=beq_eq_false_iff_ne.mpr c14;have c14b1:(a1 != 8)=true:=bne_iff_ne.mpr c14
         (skip)
         have H':=Mw H;clear H
         go_wp2
         go_meet
         case rel=>exact⟨_,(false),rfl,H',⟨by have:=HJ3.out;have:=HJ6.out;have:=HJ9.out;first | omega ⟩,by repeat (first | exact aj.refl _ | apply aj.step)⟩
        rw [if_pos c14] at H;have c14b0:(a1==8)=true:=beq_iff_eq.mpr c14;have c14b1:(a1 != 8)=false:=bne_eq_false_iff_eq.mpr c14;clear c14
        (skip)
        have H':=Mw H;clear H
        go_wp2
        go_meet
        case rel=>exact⟨_,((a2==7)),rfl,H',⟨by have:=HJ3.out;have:=HJ6.out;have:=HJ9.out;first | omega ⟩,by repeat (first | exact aj.refl _ | apply aj.step)⟩
       case rest=>
        clear HC13;obtain⟨kq,x29_12,rfl,HA,HJ12,⟨mc12,rfl⟩⟩:=hcut;cases kq with
        | zero=>exact absurd HA.out (by simp [am.j3])
        | succ kj12=>
         have H:=HA.out;clear HA;simp only [am.j3] at H;by_cases c15:x29_12=true
         ·subst c15;have H1:(some 8)=some r:=by rw [if_pos rfl] at H;exact H
          clear H;have H:=H1;clear H1;obtain rfl:=Option.some.inj H
          go_wp2
          go_ret
          exact⟨by first | rfl ,by repeat (first | exact aj.refl _ | apply aj.step)⟩
         replace c15:=Bool.eq_false_iff.mpr c15;subst c15;have H1:(if a1=8 then (am.j4 kj12 a0 a1 a2 (decide (a2<=5))) else (am.j4 kj12 a0 a1 a2 false))=some r:=by rw [if_neg (show ¬ (false=true) by decide)] at H;exact H
         clear H;have H:=H1;clear H1;have HC16:=Mw H;clear H
         go_upto_region 9 with (fail)
         go_cut [36] (fun v36 wc=>∃ (kq:Nat) (x36_15:Bool),v36=.bool x36_15/\Aside0 (am.j4 kq a0 a1 a2 x36_15=some r)/\Aside0 (kq<=kj12)/\aj w wc)
         case first=>
          have H:=HC16.out;clear HC16;by_cases c17:a1=8;rotate_left
          ·rw [if_neg c17] at H;have c17b0:(a1==8)=false:=beq_eq_false_iff_ne.mpr c17;have c17b1:(a1 != 8)=true:=bne_iff_ne.mpr c17
           (skip)
           have H':=Mw H;clear H
           go_wp2
           go_meet
           case rel=>exact⟨_,(false),rfl,H',⟨by have:=HJ3.out;have:=HJ6.out;have:=HJ9.out;have:=HJ12.out;first | omega ⟩,by repeat (first | exact aj.refl _ | apply aj.step)⟩
          rw [if_pos c17] at H;have c17b0:(a1==8)=true:=beq_iff_eq.mpr c17;have c17b1:(a1 != 8)=false:=bne_eq_false_iff_eq.mpr c17;clear c17
          (skip)
          have H':=Mw H;clear H
          go_wp2
          go_meet
          case rel=>exact⟨_,(decide (a2<=5)),rfl,H',⟨by have:=HJ3.out;have:=HJ6.out;have:=HJ9.out;have:=HJ12.out;first | omega ⟩,by repeat (first | exact aj.refl _ | apply aj.step)⟩
         case rest=>
          clear HC16;obtain⟨kq,x36_15,rfl,HA,HJ15,⟨mc15,rfl⟩⟩:=hcut;cases kq with
          | zero=>exact absurd HA.out (by simp [am.j4])
          | succ kj15=>
           have H:=HA.out;clear HA;simp only [am.j4] at H;by_cases c18:x36_15=true
           ·subst c18;have H1:(some (wrap64 (14-a2)))=some r:=by rw [if_pos rfl] at H;exact H
            clear H;have H:=H1;clear H1;obtain rfl:=Option.some.inj H
            go_wp2
            go_ret
            exact⟨by first | rfl ,by repeat (first | exact aj.refl _ | apply aj.step)⟩
           replace c18:=Bool.eq_false_iff.mpr c18;subst c18;have H1:(if a1=8 then (am.j5 kj15 a0 a1 a2 (decide (a2≥(wrap64 (a0-8))))) else (am.j5 kj15 a0 a1 a2 false))=some r:=by rw [if_neg (show ¬ (false=true) by decide)] at H;exact H
           clear H;have H:=H1;clear H1;have HC19:=Mw H;clear H
           go_upto_region 11 with (fail)
           go_cut [45] (fun v45 wc=>∃ (kq:Nat) (x45_18:Bool),v45=.bool x45_18/\Aside0 (am.j5 kq a0 a1 a2 x45_18=some r)/\Aside0 (kq<=kj15)/\aj w wc)
           case first=>
            have H:=HC19.out;clear HC19;by_cases c20:a1=8;rotate_left
            ·rw [if_neg c20] at H;have c20b0:(a1==8)=false:=beq_eq_false_iff_ne.mpr c20;have c20b1:(a1 != 8)=true:=bne_iff_ne.mpr c20
             (skip)
             have H':=Mw H;clear H
             go_wp2
             go_meet
             case rel=>exact⟨_,(false),rfl,H',⟨by have:=HJ3.out;have:=HJ6.out;have:=HJ9.out;have:=HJ12.out;have:=HJ15.out;first | omega ⟩,by repeat (first | exact aj.refl _ | apply aj.step)⟩
            rw [if_pos c20] at H;have c20b0:(a1==8)=true:=beq_iff_eq.mpr c20;have c20b1:(a1 != 8)=false:=bne_eq_false_iff_eq.mpr c20;clear c20
            (skip)
            have H':=Mw H;clear H
            go_wp2
            go_meet
            case rel=>exact⟨_,(decide (a2≥(wrap64 (a0-8)))),rfl,H',⟨by have:=HJ3.out;have:=HJ6.out;have:=HJ9.out;have:=HJ12.out;have:=HJ15.out;first | omega ⟩,by repeat (first | exact aj.refl _ | apply aj.step)⟩
           case rest=>
            clear HC19;obtain⟨kq,x45_18,rfl,HA,HJ18,⟨mc18,rfl⟩⟩:=hcut;cases kq with
            | zero=>exact absurd HA.out (by simp [am.j5])
            | succ kj18=>
             have H:=HA.out;clear HA;simp only [am.j5] at H;by_cases c21:x45_18=true
             ·subst c21;have H1:(some (wrap64 ((wrap64 (a0-1))-a2)))=some r:=by rw [if_pos rfl] at H;exact H
              clear H;have H:=H1;clear H1;obtain rfl:=Option.some.inj H
              go_wp2
              go_ret
              exact⟨by first | rfl ,by repeat (first | exact aj.refl _ | apply aj.step)⟩
             replace c21:=Bool.eq_false_iff.mpr c21;subst c21;have H1:(if a2=8 then (if a1≥(wrap64 (a0-7)) then (some (wrap64 ((wrap64 (a1-a0))+15))) else (some (-1))) else (some (-1)))=some r:=by rw [if_neg (show ¬ (false=true) by decide)] at H;exact H
             clear H;have H:=H1;clear H1;by_cases c22:a2=8;rotate_left
             ·rw [if_neg c22] at H;have c22b0:(a2==8)=false:=beq_eq_false_iff_ne.mpr c22;have c22b1:(a2 != 8)=true:=bne_iff_ne.mpr c22;obtain rfl:=Option.some.inj H
              go_wp2
              go_ret
              exact⟨by first | rfl ,by repeat (first | exact aj.refl _ | apply aj.step)⟩
             rw [if_pos c22] at H;have c22b0:(a2==8)=true:=beq_iff_eq.mpr c22;have c22b1:(a2 != 8)=false:=bne_eq_false_iff_eq.mpr c22;clear c22;by_cases c23:a1≥(wrap64 (a0-7))
             ·rw [if_pos c23] at H;have c23b0:=decide_eq_true c23;clear c23;obtain rfl:=Option.some.inj H
              go_wp2
              go_ret
              exact⟨by first | rfl ,by repeat (first | exact aj.refl _ | apply aj.step)⟩
             rw [if_neg c23] at H;have c23b0:=decide_eq_false c23;clear c23;obtain rfl:=Option.some.inj H
             go_wp2
             go_ret
             exact⟨by first | rfl ,by repeat (first | exact aj.refl _ | apply aj.step)⟩
end Go.Proofs.YtgccjgpdjkhpdaaGreat.F
namespace Go.Proofs.YtgccjgpdjkhpdaaGreat.F
open Go.RowKit Go.Proofs.YtgccjgpdjkhpdaaGreatW.PrintWords Go.Proofs.YtgccjgpdjkhpdaaGreatW.PrintLast Go.Proofs.YtgccjgpdjkhpdaaGreatW.PrintMore
attribute [local go_sem] fB fC fD fE fF fG fH fI
set_option linter.unusedVariables false
set_option linter.unusedSimpArgs false
def bP.l0:Nat->Int->Int->Int->Int->Option (Int)
 | 0,_,_,_,_=>none
 | k+1,x0,x1,x2,x7=>if x7≥(wrap64 (x2-1)) then (if 0<=x7 then (if (Go.bits .and .i64 (eZ .i64 x0 x7) 1)=1 then (if 0<=(wrap64 ((wrap64 (x7-x2))+1)) then (bP.l0 k (Go.bits .xor .i64 x0 (m9 .i64 x1 (wrap64 ((wrap64 (x7-x2))+1)))) x1 x2 (wrap64 (x7-1))) else (none)) else (bP.l0 k x0 x1 x2 (wrap64 (x7-1)))) else (none)) else (some x0)
def bP.f (k:Nat)(a0:Int)(a1:Int)(a2:Int):Option (Int):=bP.l0 k a0 a1 a2 17
theorem bP.mono_l:∀ k,(∀ y0 y1 y2 y3,ae (bP.l0 k y0 y1 y2 y3) (bP.l0 (k+1) y0 y1 y2 y3))
 | 0=>fun _ _ _ _ r h=>by simp [bP.l0] at h
 | k+1=>by
  have ih0:=bP.mono_l k
  ·intro y0 y1 y2 y3;unfold bP.l0
   repeat' first
   | (with_reducible exact ih0 _ _ _ _)
   | (with_reducible exact ae.refl _)
   | (with_reducible refine ae.ite ?_ ?_)
theorem bP.mono:∀ a0 a1 a2 k,ae (bP.f k a0 a1 a2) (bP.f (k+1) a0 a1 a2):=by
 intro a0 a1 a2 k;have ih0:=bP.mono_l k;unfold bP.f
 repeat' first
   | (with_reducible exact ih0 _ _ _ _)
set_option maxHeartbeats 8000000 in
set_option maxRecDepth 100000 in
theorem bP.calls (k:Nat)(a0:Int)(a1:Int)(a2:Int)(r:Int)(w:World)(h:bP.f k a0 a1 a2=some r) :
  Calls Tryz.prog 95 #[.int .i64 a0,.int .i64 a1,.int .i64 a2] w fun e w'=>e=.returned (.int .i64 r)/\aj w w':=by
 have H:(bP.l0 k a0 a1 a2 17)=some r:=h;clear h;have H':=Mw H;clear H
 go_enter Tryz.func95,Tryz.ntmps95
 go_wp2
 go_loopg [0,7] k (fun kq v0 v7 w'=>∃ (x0_1:Int) (x7_1:Int),v0=.int .i64 x0_1/\v7=.int .i64 x7_1/\Aside0 (bP.l0 kq x0_1 a1 a2 x7_1=some r)/\Aside0 (kq<=k)/\aj w w')
 case atStart=>exact⟨(a0),(17),rfl,rfl,H',⟨Nat.le_refl _⟩,by repeat (first | exact aj.refl _ )⟩
 case round=>
  clear H';obtain⟨x0_1,x7_1,rfl,rfl,HA,HK1,⟨m1,rfl⟩⟩:=hrel;cases gk with
  | zero=>exact absurd HA.out (by simp [bP.l0])
  | succ k1=>
   have H:=HA.out;clear HA;simp only [bP.l0] at H;by_cases c4:x7_1≥(wrap64 (a2-1));rotate_left
   ·rw [if_neg c4] at H;have c4b0:=decide_eq_false c4;clear c4;obtain rfl:=Option.some.inj H
    go_wp2
    go_ret
    exact⟨by first | rfl ,by repeat (first | exact aj.refl _ | apply aj.step)⟩
   rw [if_pos c4] at H;have c4b0:=decide_eq_true c4;clear c4;obtain⟨c5,H⟩:=bE H;have c5b0:=eq_true c5;have c5b1:=decide_eq_true c5;clear c5;obtain⟨ji6,hji6⟩:∃ j_:Int,(eZ .i64 x0_1 x7_1)=j_:=⟨_,rfl⟩;replace H:(if (Go.bits .and .i64 (ji6) 1)=1 then (if 0<=(wrap64 ((wrap64 (x7_1-a2))+1)) then (bP.l0 k1 (Go.bits .xor .i64 x0_1 (m9 .i64 a1 (wrap64 ((wrap64 (x7_1-a2))+1)))) a1 a2 (wrap64 (x7_1-1))) else (none)) else (bP.l0 k1 x0_1 a1 a2 (wrap64 (x7_1-1))))=some r:=by first | (rw [hji6] at H;exact H)
   have hji6_:(x0_1/2 ^ min x7_1.toNat 64)=ji6:=hji6;have hji6z:x7_1<=64->(x0_1/2 ^ x7_1.toNat)=ji6:=qd hji6;by_cases c7:(Go.bits .and .i64 (ji6) 1)=1;rotate_left
   ·rw [if_neg c7] at H;have c7b0:((Go.bits .and .i64 (ji6) 1)==1)=false:=beq_eq_false_iff_ne.mpr c7;have c7b1:((Go.bits .and .i64 (ji6) 1) != 1)=true:=bne_iff_ne.mpr c7;have H':=Mw H;clear H
    go_wp2
    go_roundg k1
    case measure=>have:=HK1.out;omega
    case rel=>exact⟨(x0_1),(wrap64 (x7_1-1)),rfl,rfl,H',⟨by have:=HK1.out;omega⟩,by repeat (first | exact aj.refl _ | apply aj.step)⟩
   rw [if_pos c7] at H;have c7b0:((Go.bits .and .i64 (ji6) 1)==1)=true:=beq_iff_eq.mpr c7;have c7b1:((Go.bits .and .i64 (ji6) 1) != 1)=false:=bne_eq_false_iff_eq.mpr c7;clear c7;obtain⟨ji8,hji8⟩:∃ j_:Int,(wrap64 ((wrap64 (x7_1-a2))+1))=j_:=⟨_,rfl⟩;replace H:(if 0<=(ji8) then (bP.l0 k1 (Go.bits .xor .i64 x0_1 (m9 .i64 a1 (ji8))) a1 a2 (wrap64 (x7_1-1))) else (none))=some r:=by first | (rw [hji8] at H;exact H)
   have hji8w:(IntKind.i64.wrap ((wrap64 (x7_1-a2))+1))=ji8:=(gK _).trans hji8;obtain⟨c9,H⟩:=bE H;have c9b0:=eq_true c9;have c9b1:=decide_eq_true c9;clear c9;obtain⟨ji10,hji10⟩:∃ j_:Int,(m9 .i64 a1 (ji8))=j_:=⟨_,rfl⟩;replace H:(bP.l0 k1 (Go.bits .xor .i64 x0_1 (ji10)) a1 a2 (wrap64 (x7_1-1)))=some r:=by first | (rw [hji10] at H;exact H)
   have hji10_:(IntKind.i64.wrap (a1*2 ^ min (ji8).toNat 64))=ji10:=hji10;have hji10z:(ji8)<=64->(IntKind.i64.wrap (a1*2 ^ (ji8).toNat))=ji10:=B4 hji10;have hji10y:(wrap64 (a1*2 ^ min (ji8).toNat 64))=ji10:=(gK _).symm.trans hji10_;have hji10x:(ji8)<=64->(wrap64 (a1*2 ^ (ji8).toNat))=ji10:=fun h_=>(gK _).symm.trans (hji10z h_)
   have H':=Mw H;clear H
   go_wp2
   go_roundg k1
   case measure=>have:=HK1.out;omega
   case rel=>exact⟨(Go.bits .xor .i64 x0_1 (ji10)),(wrap64 (x7_1-1)),rfl,rfl,H',⟨by have:=HK1.out;omega⟩,by repeat (first | exact aj.refl _ | apply aj.step)⟩
def fJ.f (k:Nat)(a0:Int):Option (Int):=(bP.f k (wrap64 (a0*4096)) 7973 13).bind fun t310=>(some (Go.bits .or .i64 (wrap64 (a0*4096)) t310))
theorem fJ.mono:∀ a0 k,ae (fJ.f k a0) (fJ.f (k+1) a0):=by
 intro a0 k;unfold fJ.f
 repeat' first
   | (with_reducible exact bP.mono _ _ _ _)
   | (with_reducible exact ae.refl _)
   | (with_reducible exact ae.none _)
   | (with_reducible refine ae.ite ?_ ?_)
   | (with_reducible refine ae.bind ?_ (fun _=>?_))
   | exact bP.mono _ _ _ _
   | exact ae.none _
   | refine ae.ite ?_ ?_
   | refine ae.bind ?_ (fun _=>?_)
set_option maxHeartbeats 8000000 in
set_option maxRecDepth 100000 in
theorem fJ.calls (k:Nat)(a0:Int)(r:Int)(w:World)(h:fJ.f k a0=some r) :
  Calls Tryz.prog 99 #[.int .i64 a0] w fun e w'=>e=.returned (.int .i64 r)/\aj w w':=by
 have H:((bP.f k (wrap64 (a0*4096)) 7973 13).bind fun t310=>(some (Go.bits .or .i64 (wrap64 (a0*4096)) t310)))=some r:=h;clear h;replace H:=Option.bind_eq_some_iff.mp H;obtain⟨t310,A20,H⟩:=H;replace H:(some (Go.bits .or .i64 (wrap64 (a0*4096)) t310))=some r:=H;have A2:=Mw A20;clear A20;obtain rfl:=Option.some.inj H
 go_enter Tryz.func99,Tryz.ntmps99
 go_wp2_with (first | ((with_reducible refine bg (f:=95) rfl ?_);refine be (some 7) rfl rfl Tryz.func95 (by kernel_rfl) rfl #[.int .i64 (wrap64 (a0*4096)),.int .i64 7973,.int .i64 13] rfl (by (try simp only [List.map_toArray,List.map_cons,List.map_nil]);first | done | rfl | (simp only [List.length_drop,List.length_take];rfl)) ?_;(with_reducible refine (bP.calls k (wrap64 (a0*4096)) 7973 13 t310 _ A2.out).mono ?_);rintro e w' ⟨rfl,⟨nd,rfl⟩⟩;refine⟨_,rfl,?_⟩))
 go_ret
 exact⟨by first | rfl | (simp;done) | (simp [*];done),by repeat (first | exact aj.refl _ | apply aj.step)⟩
def ic.f (k:Nat)(a0:Int)(a1:Int):Option (Int):=(bP.f k (wrap64 ((Go.bits .or .i64 (wrap64 (a0*8)) a1)*1024)) 1335 11).bind fun t294=>(some (Go.bits .xor .i64 (Go.bits .or .i64 (wrap64 ((Go.bits .or .i64 (wrap64 (a0*8)) a1)*1024)) t294) 21522))
theorem ic.mono:∀ a0 a1 k,ae (ic.f k a0 a1) (ic.f (k+1) a0 a1):=by
 intro a0 a1 k;unfold ic.f
 repeat' first
   | (with_reducible exact bP.mono _ _ _ _)
   | (with_reducible exact ae.refl _)
   | (with_reducible exact ae.none _)
   | (with_reducible refine ae.ite ?_ ?_)
   | (with_reducible refine ae.bind ?_ (fun _=>?_))
   | exact bP.mono _ _ _ _
   | exact ae.none _
   | refine ae.ite ?_ ?_
   | refine ae.bind ?_ (fun _=>?_)
set_option maxHeartbeats 8000000 in
set_option maxRecDepth 100000 in
theorem ic.calls (k:Nat)(a0:Int)(a1:Int)(r:Int)(w:World)(h:ic.f k a0 a1=some r) :
  Calls Tryz.prog 47 #[.int .i64 a0,.int .i64 a1] w fun e w'=>e=.returned (.int .i64 r)/\aj w w':=by
 have H:((bP.f k (wrap64 ((Go.bits .or .i64 (wrap64 (a0*8)) a1)*1024)) 1335 11).bind fun t294=>(some (Go.bits .xor .i64 (Go.bits .or .i64 (wrap64 ((Go.bits .or .i64 (wrap64 (a0*8)) a1)*1024)) t294) 21522)))=some r:=h;clear h;replace H:=Option.bind_eq_some_iff.mp H;obtain⟨t294,A30,H⟩:=H;replace H:(some (Go.bits .xor .i64 (Go.bits .or .i64 (wrap64 ((Go.bits .or .i64 (wrap64 (a0*8)) a1)*1024)) t294) 21522))=some r:=H;have A3:=Mw A30;clear A30;obtain rfl:=Option.some.inj H
 go_enter Tryz.func47,Tryz.ntmps47
 go_wp2_with (first | ((with_reducible refine bg (f:=95) rfl ?_);refine be (some 14) rfl rfl Tryz.func95 (by kernel_rfl) rfl #[.int .i64 (wrap64 ((Go.bits .or .i64 (wrap64 (a0*8)) a1)*1024)),.int .i64 1335,.int .i64 11] rfl (by (try simp only [List.map_toArray,List.map_cons,List.map_nil]);first | done | rfl | (simp only [List.length_drop,List.length_take];rfl)) ?_;(with_reducible refine (bP.calls k (wrap64 ((Go.bits .or .i64 (wrap64 (a0*8)) a1)*1024)) 1335 11 t294 _ A3.out).mono ?_);rintro e w' ⟨rfl,⟨nd,rfl⟩⟩;refine⟨_,rfl,?_⟩))
 go_ret
 exact⟨by first | rfl | (simp;done) | (simp [*];done),by repeat (first | exact aj.refl _ | apply aj.step)⟩
end Go.Proofs.YtgccjgpdjkhpdaaGreat.F
