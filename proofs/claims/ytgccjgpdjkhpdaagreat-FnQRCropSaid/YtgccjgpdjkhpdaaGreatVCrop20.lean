import Derived.Test.YtgccjgpdjkhpdaaGreatVCrop2
/-! Own texts of this claim, part 20. -/
namespace Go.Proofs.YtgccjgpdjkhpdaaGreat.F
open Go.RowKit Go.Proofs.YtgccjgpdjkhpdaaGreatW.PrintWords Go.Proofs.YtgccjgpdjkhpdaaGreatW.PrintLast Go.Proofs.YtgccjgpdjkhpdaaGreatW.PrintMore
attribute [local go_sem] max2_int min2_int max_two min_two max_three min_three max_four min_four
set_option linter.unusedVariables false
set_option linter.unusedSimpArgs false
def spec_QRMaskBit.f (a0:Int)(a1:Int)(a2:Int):Option (Bool):=if a0=0 then (some ((Int.tmod (wrap64 (a1+a2)) 2)==0)) else (if a0=1 then (some ((Int.tmod a2 2)==0)) else (if a0=2 then (some ((Int.tmod a1 3)==0)) else (if a0=3 then (some ((Int.tmod (wrap64 (a1+a2)) 3)==0)) else (if a0=4 then (some ((Int.tmod (wrap64 ((wrap64 (Int.tdiv a2 2))+(wrap64 (Int.tdiv a1 3)))) 2)==0)) else (if a0=5 then (some ((wrap64 ((Int.tmod (wrap64 (a1*a2)) 2)+(Int.tmod (wrap64 (a1*a2)) 3)))==0)) else (if a0=6 then (some ((Int.tmod (wrap64 ((Int.tmod (wrap64 (a1*a2)) 2)+(Int.tmod (wrap64 (a1*a2)) 3))) 2)==0)) else (some ((Int.tmod (wrap64 ((Int.tmod (wrap64 (a1+a2)) 2)+(Int.tmod (wrap64 (a1*a2)) 3))) 2)==0))))))))
set_option maxHeartbeats 8000000 in
set_option maxRecDepth 100000 in
theorem spec_QRMaskBit.calls (a0:Int)(a1:Int)(a2:Int)(r:Bool)(w:World)(h:spec_QRMaskBit.f a0 a1 a2=some r) :
  Calls Tryz.prog 65 #[.int .i64 a0,.int .i64 a1,.int .i64 a2] w fun e w'=>e=.returned (.bool r)/\Drawn0 w w':=by
 have H:(if a0=0 then (some ((Int.tmod (wrap64 (a1+a2)) 2)==0)) else (if a0=1 then (some ((Int.tmod a2 2)==0)) else (if a0=2 then (some ((Int.tmod a1 3)==0)) else (if a0=3 then (some ((Int.tmod (wrap64 (a1+a2)) 3)==0)) else (if a0=4 then (some ((Int.tmod (wrap64 ((wrap64 (Int.tdiv a2 2))+(wrap64 (Int.tdiv a1 3)))) 2)==0)) else (if a0=5 then (some ((wrap64 ((Int.tmod (wrap64 (a1*a2)) 2)+(Int.tmod (wrap64 (a1*a2)) 3)))==0)) else (if a0=6 then (some ((Int.tmod (wrap64 ((Int.tmod (wrap64 (a1*a2)) 2)+(Int.tmod (wrap64 (a1*a2)) 3))) 2)==0)) else (some ((Int.tmod (wrap64 ((Int.tmod (wrap64 (a1+a2)) 2)+(Int.tmod (wrap64 (a1*a2)) 3))) 2)==0)))))))))=some r:=h
 clear h
 by_cases c4:a0=0
 ·rw [if_pos c4] at H
  have c4b0:(a0==0)=true:=beq_iff_eq.mpr c4
  have c4b1:(a0 != 0)=false:=bne_eq_false_iff_eq.mpr c4
  clear c4
  obtain rfl:=Option.some.inj H
  go_enter Tryz.func65,Tryz.ntmps65
  go_wp2
  go_ret
  exact⟨by first | rfl | (simp;done) | (simp [*];done),by repeat (first | exact Drawn0.refl _ | apply Drawn0.step)⟩
 ·rw [if_neg c4] at H
  have c4b0:(a0==0)=false:=beq_eq_false_iff_ne.mpr c4
  have c4b1:(a0 != 0)=true:=bne_iff_ne.mpr c4
  by_cases c5:a0=1
  ·rw [if_pos c5] at H
   have c5b0:(a0==1)=true:=beq_iff_eq.mpr c5
   have c5b1:(a0 != 1)=false:=bne_eq_false_iff_eq.mpr c5
   clear c5
   obtain rfl:=Option.some.inj H
   go_enter Tryz.func65,Tryz.ntmps65
   go_wp2
   go_ret
   exact⟨by first | rfl | (simp;done) | (simp [*];done),by repeat (first | exact Drawn0.refl _ | apply Drawn0.step)⟩
  ·rw [if_neg c5] at H
   have c5b0:(a0==1)=false:=beq_eq_false_iff_ne.mpr c5
   have c5b1:(a0 != 1)=true:=bne_iff_ne.mpr c5
   by_cases c6:a0=2
   ·rw [if_pos c6] at H
    have c6b0:(a0==2)=true:=beq_iff_eq.mpr c6
    have c6b1:(a0 != 2)=false:=bne_eq_false_iff_eq.mpr c6
    clear c6
    obtain rfl:=Option.some.inj H
    go_enter Tryz.func65,Tryz.ntmps65
    go_wp2
    go_ret
    exact⟨by first | rfl | (simp;done) | (simp [*];done),by repeat (first | exact Drawn0.refl _ | apply Drawn0.step)⟩
   ·rw [if_neg c6] at H
    have c6b0:(a0==2)=false:=beq_eq_false_iff_ne.mpr c6
    have c6b1:(a0 != 2)=true:=bne_iff_ne.mpr c6
    by_cases c7:a0=3
    ·rw [if_pos c7] at H
     have c7b0:(a0==3)=true:=beq_iff_eq.mpr c7
     have c7b1:(a0 != 3)=false:=bne_eq_false_iff_eq.mpr c7
     clear c7
     obtain rfl:=Option.some.inj H
     go_enter Tryz.func65,Tryz.ntmps65
     go_wp2
     go_ret
     exact⟨by first | rfl | (simp;done) | (simp [*];done),by repeat (first | exact Drawn0.refl _ | apply Drawn0.step)⟩
    ·rw [if_neg c7] at H
     have c7b0:(a0==3)=false:=beq_eq_false_iff_ne.mpr c7
     have c7b1:(a0 != 3)=true:=bne_iff_ne.mpr c7
     by_cases c8:a0=4
     ·rw [if_pos c8] at H
      have c8b0:(a0==4)=true:=beq_iff_eq.mpr c8
      have c8b1:(a0 != 4)=false:=bne_eq_false_iff_eq.mpr c8
      clear c8
      obtain rfl:=Option.some.inj H
      go_enter Tryz.func65,Tryz.ntmps65
      go_wp2
      go_ret
      exact⟨by first | rfl | (simp;done) | (simp [*];done),by repeat (first | exact Drawn0.refl _ | apply Drawn0.step)⟩
     ·rw [if_neg c8] at H
      have c8b0:(a0==4)=false:=beq_eq_false_iff_ne.mpr c8
      have c8b1:(a0 != 4)=true:=bne_iff_ne.mpr c8
      by_cases c9:a0=5
      ·rw [if_pos c9] at H
       have c9b0:(a0==5)=true:=beq_iff_eq.mpr c9
       have c9b1:(a0 != 5)=false:=bne_eq_false_iff_eq.mpr c9
       clear c9
       obtain rfl:=Option.some.inj H
       go_enter Tryz.func65,Tryz.ntmps65
       go_wp2
       go_ret
       exact⟨by first | rfl | (simp;done) | (simp [*];done),by repeat (first | exact Drawn0.refl _ | apply Drawn0.step)⟩
      ·rw [if_neg c9] at H
       have c9b0:(a0==5)=false:=beq_eq_false_iff_ne.mpr c9
       have c9b1:(a0 != 5)=true:=bne_iff_ne.mpr c9
       by_cases c10:a0=6
       ·rw [if_pos c10] at H
        have c10b0:(a0==6)=true:=beq_iff_eq.mpr c10
        have c10b1:(a0 != 6)=false:=bne_eq_false_iff_eq.mpr c10
        clear c10
        obtain rfl:=Option.some.inj H
        go_enter Tryz.func65,Tryz.ntmps65
        go_wp2
        go_ret
        exact⟨by first | rfl | (simp;done) | (simp [*];done),by repeat (first | exact Drawn0.refl _ | apply Drawn0.step)⟩
       ·rw [if_neg c10] at H
        have c10b0:(a0==6)=false:=beq_eq_false_iff_ne.mpr c10
        have c10b1:(a0 != 6)=true:=bne_iff_ne.mpr c10
        obtain rfl:=Option.some.inj H
        go_enter Tryz.func65,Tryz.ntmps65
        go_wp2
        go_ret
        exact⟨by first | rfl | (simp;done) | (simp [*];done),by repeat (first | exact Drawn0.refl _ | apply Drawn0.step)⟩
end Go.Proofs.YtgccjgpdjkhpdaaGreat.F
