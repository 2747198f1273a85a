import Derived.Test.YtgccjgpdjkhpdaaGreatVQ16
import Derived.Test.YtgccjgpdjkhpdaaGreatVQ17
/-! Own texts of this claim, part 19. -/
namespace Go.Proofs.YtgccjgpdjkhpdaaGreat.F
open Go.RowKit Go.Proofs.YtgccjgpdjkhpdaaGreatW.PrintWords Go.Proofs.YtgccjgpdjkhpdaaGreatW.PrintLast Go.Proofs.YtgccjgpdjkhpdaaGreatW.PrintMore
attribute [local go_sem] max2_int min2_int max_two min_two max_three min_three max_four min_four
set_option linter.unusedVariables false
set_option linter.unusedSimpArgs false
mutual
def spec_qrPattern.j0:Nat->Int->List Int->Int->Int->Int->Bool->Option (Bool)
 | 0,_,_,_,_,_,_=>none
 | k+1,x0,x2,x3,x4,x11,x35=>if x35=true then (some true) else ((spec_qrFar.f x3 x4 3 3).bind fun t313=>((spec_qrFar.f x3 x4 3 (wrap64 (x11-4))).bind fun t314=>((spec_qrFar.f x3 x4 (wrap64 (x11-4)) 3).bind fun t315=>(if (mn (mn t313 t314) t315)<=4 then (if (mn (mn t313 t314) t315)=2 then (some false) else (some ((mn (mn t313 t314) t315) != 4))) else ((spec_qrAlign.f k x2 x3 x4).bind fun t316=>(if t316≥0 then (some (t316 != 1)) else (if x3=6 then (spec_qrPattern.j1 k x0 x3 x4 x11 true) else (spec_qrPattern.j1 k x0 x3 x4 x11 (x4==6)))))))))
def spec_qrPattern.j1:Nat->Int->Int->Int->Int->Bool->Option (Bool)
 | 0,_,_,_,_,_=>none
 | k+1,x0,x3,x4,x11,x71=>if x71=true then (some ((Int.tmod (wrap64 (x3+x4)) 2)==0)) else (if x3<x4 then ((spec_QRVersionBits.f k x0).bind fun t317=>(if 0<=(wrap64 ((wrap64 ((wrap64 ((wrap64 (x3*3))+x4))-x11))+11)) then (some ((Go.bits .and .i64 (shr .i64 t317 (wrap64 ((wrap64 ((wrap64 ((wrap64 (x3*3))+x4))-x11))+11))) 1)==1)) else (none))) else ((spec_QRVersionBits.f k x0).bind fun t318=>(if 0<=(wrap64 ((wrap64 ((wrap64 ((wrap64 (x4*3))+x3))-x11))+11)) then (some ((Go.bits .and .i64 (shr .i64 t318 (wrap64 ((wrap64 ((wrap64 ((wrap64 (x4*3))+x3))-x11))+11))) 1)==1)) else (none))))
end
def spec_qrPattern.f (k:Nat)(a0:Int)(a1:Int)(l2:List Int)(a3:Int)(a4:Int):Option (Bool):=(spec_QRDimension.f a0).bind fun t311=>((spec_qrFormatAt.f k t311 a3 a4).bind fun t312=>(if t312≥0 then (if 0<=t312 then (some ((Go.bits .and .i64 (shr .i64 a1 t312) 1)==1)) else (none)) else (if a3=(wrap64 (t311-8)) then (spec_qrPattern.j0 k a0 l2 a3 a4 t311 (a4==8)) else (spec_qrPattern.j0 k a0 l2 a3 a4 t311 false))))
theorem spec_qrPattern.mono_l:∀ k,(∀ y0 y1 y2 y3 y4 y5,LeO (spec_qrPattern.j0 k y0 y1 y2 y3 y4 y5) (spec_qrPattern.j0 (k+1) y0 y1 y2 y3 y4 y5))/\(∀ y0 y1 y2 y3 y4,LeO (spec_qrPattern.j1 k y0 y1 y2 y3 y4) (spec_qrPattern.j1 (k+1) y0 y1 y2 y3 y4))
 | 0=>⟨fun _ _ _ _ _ _ r h=>by simp [spec_qrPattern.j0] at h,fun _ _ _ _ _ r h=>by simp [spec_qrPattern.j1] at h⟩
 | k+1=>by
  obtain⟨ih0,ih1⟩:=spec_qrPattern.mono_l k
  refine⟨?_,?_⟩
  ·intro y0 y1 y2 y3 y4 y5
   unfold spec_qrPattern.j0
   repeat' first
   | (with_reducible exact ih0 _ _ _ _ _ _)
   | (with_reducible exact ih1 _ _ _ _ _)
   | (with_reducible exact spec_QRVersionBits.mono _ _)
   | (with_reducible exact spec_qrAlign.mono _ _ _ _)
   | (with_reducible exact spec_qrFormatAt.mono _ _ _ _)
   | (with_reducible exact LeO.refl _)
   | (with_reducible exact LeO.none _)
   | (with_reducible refine LeO.ite ?_ ?_)
   | (with_reducible refine LeO.bind ?_ (fun _=>?_))
   | exact ih0 _ _ _ _ _ _
   | exact ih1 _ _ _ _ _
   | exact spec_QRVersionBits.mono _ _
   | exact spec_qrAlign.mono _ _ _ _
   | exact spec_qrFormatAt.mono _ _ _ _
   | exact LeO.none _
   | refine LeO.ite ?_ ?_
   | refine LeO.bind ?_ (fun _=>?_)
  ·intro y0 y1 y2 y3 y4
   unfold spec_qrPattern.j1
   repeat' first
   | (with_reducible exact ih0 _ _ _ _ _ _)
   | (with_reducible exact ih1 _ _ _ _ _)
   | (with_reducible exact spec_QRVersionBits.mono _ _)
   | (with_reducible exact spec_qrAlign.mono _ _ _ _)
   | (with_reducible exact spec_qrFormatAt.mono _ _ _ _)
   | (with_reducible exact LeO.refl _)
   | (with_reducible exact LeO.none _)
   | (with_reducible refine LeO.ite ?_ ?_)
   | (with_reducible refine LeO.bind ?_ (fun _=>?_))
   | exact ih0 _ _ _ _ _ _
   | exact ih1 _ _ _ _ _
   | exact spec_QRVersionBits.mono _ _
   | exact spec_qrAlign.mono _ _ _ _
   | exact spec_qrFormatAt.mono _ _ _ _
   | exact LeO.none _
   | refine LeO.ite ?_ ?_
   | refine LeO.bind ?_ (fun _=>?_)
theorem spec_qrPattern.mono:∀ a0 a1 a2 a3 a4 k,LeO (spec_qrPattern.f k a0 a1 a2 a3 a4) (spec_qrPattern.f (k+1) a0 a1 a2 a3 a4):=by
 intro a0 a1 a2 a3 a4 k
 obtain⟨ih0,ih1⟩:=spec_qrPattern.mono_l k
 unfold spec_qrPattern.f
 repeat' first
   | (with_reducible exact ih0 _ _ _ _ _ _)
   | (with_reducible exact ih1 _ _ _ _ _)
   | (with_reducible exact spec_QRVersionBits.mono _ _)
   | (with_reducible exact spec_qrAlign.mono _ _ _ _)
   | (with_reducible exact spec_qrFormatAt.mono _ _ _ _)
   | (with_reducible exact LeO.refl _)
   | (with_reducible exact LeO.none _)
   | (with_reducible refine LeO.ite ?_ ?_)
   | (with_reducible refine LeO.bind ?_ (fun _=>?_))
   | exact ih0 _ _ _ _ _ _
   | exact ih1 _ _ _ _ _
   | exact spec_QRVersionBits.mono _ _
   | exact spec_qrAlign.mono _ _ _ _
   | exact spec_qrFormatAt.mono _ _ _ _
   | exact LeO.none _
   | refine LeO.ite ?_ ?_
   | refine LeO.bind ?_ (fun _=>?_)
set_option maxHeartbeats 8000000 in
set_option maxRecDepth 100000 in
theorem spec_qrPattern.calls (k:Nat)(a0:Int)(a1:Int)(A2:Option Addr)(c2:Nat)(l2:List Int)(a3:Int)(a4:Int)(r:Bool)(w:World)(hr2:Kd.C (Kd.int .i64) w A2 l2.length l2)(hc2:l2.length<=c2)(h:spec_qrPattern.f k a0 a1 l2 a3 a4=some r) :
  Calls Tryz.prog 50 #[.int .i64 a0,.int .i64 a1,.slice A2 l2.length c2,.int .i64 a3,.int .i64 a4] w fun e w'=>e=.returned (.bool r)/\Below w.heap.size w w':=by
 have HR2:=Aside0.mk hr2
 have HC2:=Aside0.mk hc2
 clear hr2 hc2
 have HB:=Aside0.mk (Below.refl w.heap.size w)
 have H:((spec_QRDimension.f a0).bind fun t311=>((spec_qrFormatAt.f k t311 a3 a4).bind fun t312=>(if t312≥0 then (if 0<=t312 then (some ((Go.bits .and .i64 (shr .i64 a1 t312) 1)==1)) else (none)) else (if a3=(wrap64 (t311-8)) then (spec_qrPattern.j0 k a0 l2 a3 a4 t311 (a4==8)) else (spec_qrPattern.j0 k a0 l2 a3 a4 t311 false)))))=some r:=h
 clear h
 replace H:=Option.bind_eq_some_iff.mp H
 obtain⟨t311,A60,H⟩:=H
 replace H:((spec_qrFormatAt.f k t311 a3 a4).bind fun t312=>(if t312≥0 then (if 0<=t312 then (some ((Go.bits .and .i64 (shr .i64 a1 t312) 1)==1)) else (none)) else (if a3=(wrap64 (t311-8)) then (spec_qrPattern.j0 k a0 l2 a3 a4 t311 (a4==8)) else (spec_qrPattern.j0 k a0 l2 a3 a4 t311 false))))=some r:=H
 have A6:=Aside0.mk A60
 clear A60
 replace H:=Option.bind_eq_some_iff.mp H
 obtain⟨t312,A70,H⟩:=H
 replace H:(if t312≥0 then (if 0<=t312 then (some ((Go.bits .and .i64 (shr .i64 a1 t312) 1)==1)) else (none)) else (if a3=(wrap64 (t311-8)) then (spec_qrPattern.j0 k a0 l2 a3 a4 t311 (a4==8)) else (spec_qrPattern.j0 k a0 l2 a3 a4 t311 false)))=some r:=H
 have A7:=Aside0.mk A70
 clear A70
 by_cases c8:t312≥0
 ·rw [if_pos c8] at H
  have c8b0:decide (0<=t312)=true:=decide_eq_true c8
  clear c8
  by_cases c9:0<=t312
  ·rw [if_pos c9] at H
   have c9b0:=eq_true c9
   have c9b1:decide (0<=t312)=true:=decide_eq_true c9
   clear c9
   obtain⟨ji10,hji10⟩:∃ j_:Int,(shr .i64 a1 t312)=j_:=⟨_,rfl⟩
   replace H:(some ((Go.bits .and .i64 (ji10) 1)==1))=some r:=by first | (rw [hji10] at H;exact H) | (simp only [hji10] at H ⊢;exact H)
   (try rw [hji10] at A6)
   (try rw [hji10] at A7)
   have hji10_:(a1/2 ^ min t312.toNat 64)=ji10:=hji10
   have hji10z:t312<=64->(a1/2 ^ t312.toNat)=ji10:=shr_small hji10
   obtain rfl:=Option.some.inj H
   go_enter Tryz.func50,Tryz.ntmps50
   go_wp2_with (first | ((with_reducible refine gate_callee (f:=46) rfl ?_);refine goesL_ (some 16) rfl rfl Tryz.func46 (by kernel_rfl) rfl #[.int .i64 a0] rfl (by (try simp only [List.map_toArray,List.map_cons,List.map_nil]);first | done | rfl | (simp only [List.length_drop,List.length_take];rfl)) ?_;(with_reducible refine (spec_QRDimension.calls a0 t311 _ A6.out).mono ?_);rintro e w' ⟨rfl,⟨nd,rfl⟩⟩;refine⟨_,rfl,?_⟩) | ((with_reducible refine gate_callee (f:=97) rfl ?_);refine goesL_ (some 20) rfl rfl Tryz.func97 (by kernel_rfl) rfl #[.int .i64 t311,.int .i64 a3,.int .i64 a4] rfl (by (try simp only [List.map_toArray,List.map_cons,List.map_nil]);first | done | rfl | (simp only [List.length_drop,List.length_take];rfl)) ?_;(with_reducible refine (spec_qrFormatAt.calls k t311 a3 a4 t312 _ A7.out).mono ?_);rintro e w' ⟨rfl,⟨nd,rfl⟩⟩;refine⟨_,rfl,?_⟩))
   go_ret
   exact⟨by first | rfl | (simp [errW_none,errW_some]<;>rfl) | (simp only [<- hji10];first | rfl | (simp [errW_none,errW_some]<;>rfl)) | (simp [*,errW_none,errW_some]<;>rfl),by repeat (first | (with_reducible first | exact HB.out | apply below_alloc | apply pw_below_drewN | apply below_drew1) | exact HB.out)⟩
  ·rw [if_neg c9] at H
   exact absurd H (by simp)
 ·rw [if_neg c8] at H
  have c8b0:decide (0<=t312)=false:=decide_eq_false c8
  clear c8
  have HC11:=Aside0.mk H
  clear H
  go_enter Tryz.func50,Tryz.ntmps50
  go_upto_region 5 with (first | ((with_reducible refine gate_callee (f:=46) rfl ?_);refine goesL_ (some 16) rfl rfl Tryz.func46 (by kernel_rfl) rfl #[.int .i64 a0] rfl (by (try simp only [List.map_toArray,List.map_cons,List.map_nil]);first | done | rfl | (simp only [List.length_drop,List.length_take];rfl)) ?_;(with_reducible refine (spec_QRDimension.calls a0 t311 _ A6.out).mono ?_);rintro e w' ⟨rfl,⟨nd,rfl⟩⟩;refine⟨_,rfl,?_⟩) | ((with_reducible refine gate_callee (f:=97) rfl ?_);refine goesL_ (some 20) rfl rfl Tryz.func97 (by kernel_rfl) rfl #[.int .i64 t311,.int .i64 a3,.int .i64 a4] rfl (by (try simp only [List.map_toArray,List.map_cons,List.map_nil]);first | done | rfl | (simp only [List.length_drop,List.length_take];rfl)) ?_;(with_reducible refine (spec_qrFormatAt.calls k t311 a3 a4 t312 _ A7.out).mono ?_);rintro e w' ⟨rfl,⟨nd,rfl⟩⟩;refine⟨_,rfl,?_⟩))
  (try simp only [Act.put,List.setIfInBounds_toArray,List.set_cons_zero,List.set_cons_succ])
  go_cut [35] (fun v35 wc=>∃ (kq:Nat) (x35_10:Bool),v35=.bool x35_10/\Aside0 (spec_qrPattern.j0 kq a0 l2 a3 a4 t311 x35_10=some r)/\Aside0 (kq<=k)/\Aside0 (Below w.heap.size w wc))
  case first=>
   have H:=HC11.out
   clear HC11
   by_cases c12:a3=(wrap64 (t311-8))
   ·rw [if_pos c12] at H
    have c12b0:(a3==(wrap64 (t311-8)))=true:=beq_iff_eq.mpr c12
    have c12b1:(a3 != (wrap64 (t311-8)))=false:=bne_eq_false_iff_eq.mpr c12
    clear c12
    (first | rw [c12b0] | (simp only [i64_w,i32_w];rw [c12b0]) | skip)
    have H':=Aside0.mk H
    clear H
    go_wp2
    go_meet
    case rel=>exact⟨_,((a4==8)),(by first | rfl | (simp;done) | (simp [*];done)),H',⟨by first | omega | exact Nat.le_refl _⟩,⟨by repeat (first | (with_reducible first | exact HB.out | apply below_alloc | apply pw_below_drewN | apply below_drew1) | exact HB.out)⟩⟩
   ·rw [if_neg c12] at H
    have c12b0:(a3==(wrap64 (t311-8)))=false:=beq_eq_false_iff_ne.mpr c12
    have c12b1:(a3 != (wrap64 (t311-8)))=true:=bne_iff_ne.mpr c12
    (first | rw [c12b0] | (simp only [i64_w,i32_w];rw [c12b0]) | skip)
    have H':=Aside0.mk H
    clear H
    go_wp2
    go_meet
    case rel=>exact⟨_,(false),(by first | rfl | (simp;done) | (simp [*];done)),H',⟨by first | omega | exact Nat.le_refl _⟩,⟨by repeat (first | (with_reducible first | exact HB.out | apply below_alloc | apply pw_below_drewN | apply below_drew1) | exact HB.out)⟩⟩
  case rest=>
   clear HC11
   try clear c1
   try clear c2
   try clear p2
   try clear c4
   try clear c5
   try clear p6
   try clear c8
   try clear c8b0
   try clear c9
   try clear c9b0
   try clear c9b1
   try clear c12
   try clear c12b0
   try clear c12b1
   obtain⟨kq,x35_10,rfl,HA,HJ10,HB⟩:=hcut
   cases kq with
   | zero=>exact absurd HA.out (by simp [spec_qrPattern.j0])
   | succ kj10=>
    have H:=HA.out
    clear HA
    simp only [spec_qrPattern.j0] at H
    by_cases c13:x35_10=true
    ·subst c13
     have H1:(some true)=some r:=by rw [if_pos rfl] at H;exact H
     clear H
     have H:=H1
     clear H1
     obtain rfl:=Option.some.inj H
     go_wp2
     go_ret
     exact⟨by first | rfl | (simp [errW_none,errW_some]<;>rfl) | (simp [*,errW_none,errW_some]<;>rfl),by repeat (first | (with_reducible first | exact HB.out | apply below_alloc | apply pw_below_drewN | apply below_drew1) | exact HB.out)⟩
    ·replace c13:=Bool.eq_false_iff.mpr c13
     subst c13
     have H1:((spec_qrFar.f a3 a4 3 3).bind fun t313=>((spec_qrFar.f a3 a4 3 (wrap64 (t311-4))).bind fun t314=>((spec_qrFar.f a3 a4 (wrap64 (t311-4)) 3).bind fun t315=>(if (mn (mn t313 t314) t315)<=4 then (if (mn (mn t313 t314) t315)=2 then (some false) else (some ((mn (mn t313 t314) t315) != 4))) else ((spec_qrAlign.f kj10 l2 a3 a4).bind fun t316=>(if t316≥0 then (some (t316 != 1)) else (if a3=6 then (spec_qrPattern.j1 kj10 a0 a3 a4 t311 true) else (spec_qrPattern.j1 kj10 a0 a3 a4 t311 (a4==6)))))))))=some r:=by rw [if_neg (show ¬ (false=true) by decide)] at H;exact H
     clear H
     have H:=H1
     clear H1
     replace H:=Option.bind_eq_some_iff.mp H
     obtain⟨t313,A140,H⟩:=H
     replace H:((spec_qrFar.f a3 a4 3 (wrap64 (t311-4))).bind fun t314=>((spec_qrFar.f a3 a4 (wrap64 (t311-4)) 3).bind fun t315=>(if (mn (mn t313 t314) t315)<=4 then (if (mn (mn t313 t314) t315)=2 then (some false) else (some ((mn (mn t313 t314) t315) != 4))) else ((spec_qrAlign.f kj10 l2 a3 a4).bind fun t316=>(if t316≥0 then (some (t316 != 1)) else (if a3=6 then (spec_qrPattern.j1 kj10 a0 a3 a4 t311 true) else (spec_qrPattern.j1 kj10 a0 a3 a4 t311 (a4==6))))))))=some r:=H
     have A14:=Aside0.mk A140
     clear A140
     replace H:=Option.bind_eq_some_iff.mp H
     obtain⟨t314,A150,H⟩:=H
     replace H:((spec_qrFar.f a3 a4 (wrap64 (t311-4)) 3).bind fun t315=>(if (mn (mn t313 t314) t315)<=4 then (if (mn (mn t313 t314) t315)=2 then (some false) else (some ((mn (mn t313 t314) t315) != 4))) else ((spec_qrAlign.f kj10 l2 a3 a4).bind fun t316=>(if t316≥0 then (some (t316 != 1)) else (if a3=6 then (spec_qrPattern.j1 kj10 a0 a3 a4 t311 true) else (spec_qrPattern.j1 kj10 a0 a3 a4 t311 (a4==6)))))))=some r:=H
     have A15:=Aside0.mk A150
     clear A150
     replace H:=Option.bind_eq_some_iff.mp H
     obtain⟨t315,A160,H⟩:=H
     replace H:(if (mn (mn t313 t314) t315)<=4 then (if (mn (mn t313 t314) t315)=2 then (some false) else (some ((mn (mn t313 t314) t315) != 4))) else ((spec_qrAlign.f kj10 l2 a3 a4).bind fun t316=>(if t316≥0 then (some (t316 != 1)) else (if a3=6 then (spec_qrPattern.j1 kj10 a0 a3 a4 t311 true) else (spec_qrPattern.j1 kj10 a0 a3 a4 t311 (a4==6))))))=some r:=H
     have A16:=Aside0.mk A160
     clear A160
     obtain⟨ji17,hji17⟩:∃ j_:Int,(mn t313 t314)=j_:=⟨_,rfl⟩
     replace H:(if (mn (ji17) t315)<=4 then (if (mn (ji17) t315)=2 then (some false) else (some ((mn (ji17) t315) != 4))) else ((spec_qrAlign.f kj10 l2 a3 a4).bind fun t316=>(if t316≥0 then (some (t316 != 1)) else (if a3=6 then (spec_qrPattern.j1 kj10 a0 a3 a4 t311 true) else (spec_qrPattern.j1 kj10 a0 a3 a4 t311 (a4==6))))))=some r:=by first | (rw [hji17] at H;exact H) | (simp only [hji17] at H ⊢;exact H)
     (try rw [hji17] at A14)
     (try rw [hji17] at A15)
     (try rw [hji17] at A16)
     have hji17_:(if t314<t313 then t314 else t313)=ji17:=hji17
     obtain⟨ji18,hji18⟩:∃ j_:Int,(mn (ji17) t315)=j_:=⟨_,rfl⟩
     replace H:(if (ji18)<=4 then (if (ji18)=2 then (some false) else (some ((ji18) != 4))) else ((spec_qrAlign.f kj10 l2 a3 a4).bind fun t316=>(if t316≥0 then (some (t316 != 1)) else (if a3=6 then (spec_qrPattern.j1 kj10 a0 a3 a4 t311 true) else (spec_qrPattern.j1 kj10 a0 a3 a4 t311 (a4==6))))))=some r:=by first | (rw [hji18] at H;exact H) | (simp only [hji18] at H ⊢;exact H)
     (try rw [hji18] at A14)
     (try rw [hji18] at A15)
     (try rw [hji18] at A16)
     have hji18_:(if t315<(ji17) then t315 else (ji17))=ji18:=hji18
     by_cases c19:(ji18)<=4
     ·rw [if_pos c19] at H
      have c19b0:decide ((ji18)<=4)=true:=decide_eq_true c19
      clear c19
      by_cases c20:(ji18)=2
      ·rw [if_pos c20] at H
       have c20b0:((ji18)==2)=true:=beq_iff_eq.mpr c20
       have c20b1:((ji18) != 2)=false:=bne_eq_false_iff_eq.mpr c20
       clear c20
       obtain rfl:=Option.some.inj H
       go_wp2_with (first | ((with_reducible refine gate_callee (f:=98) rfl ?_);refine goesL_ (some 38) rfl rfl Tryz.func98 (by kernel_rfl) rfl #[.int .i64 a3,.int .i64 a4,.int .i64 3,.int .i64 3] rfl (by (try simp only [List.map_toArray,List.map_cons,List.map_nil]);first | done | rfl | (simp only [List.length_drop,List.length_take];rfl)) ?_;(with_reducible refine (spec_qrFar.calls a3 a4 3 3 t313 _ A14.out).mono ?_);rintro e w21 ⟨rfl,hb⟩;refine⟨_,rfl,?_⟩;have n0_:=Aside0.mk (below_step (by repeat (first | (with_reducible first | exact HB.out | apply below_alloc | apply pw_below_drewN | apply below_drew1) | exact HB.out)) hb);clear HB;have HB:=n0_;clear n0_;(try clear hb);(try clear hb2);(try clear hk);(try clear hi)) | ((with_reducible refine gate_callee (f:=98) rfl ?_);refine goesL_ (some 43) rfl rfl Tryz.func98 (by kernel_rfl) rfl #[.int .i64 a3,.int .i64 a4,.int .i64 3,.int .i64 (wrap64 (t311-4))] rfl (by (try simp only [List.map_toArray,List.map_cons,List.map_nil]);first | done | rfl | (simp only [List.length_drop,List.length_take];rfl)) ?_;(with_reducible refine (spec_qrFar.calls a3 a4 3 (wrap64 (t311-4)) t314 _ A15.out).mono ?_);rintro e w22 ⟨rfl,hb⟩;refine⟨_,rfl,?_⟩;have n0_:=Aside0.mk (below_step (by repeat (first | (with_reducible first | exact HB.out | apply below_alloc | apply pw_below_drewN | apply below_drew1) | exact HB.out)) hb);clear HB;have HB:=n0_;clear n0_;(try clear hb);(try clear hb2);(try clear hk);(try clear hi)) | ((with_reducible refine gate_callee (f:=98) rfl ?_);refine goesL_ (some 48) rfl rfl Tryz.func98 (by kernel_rfl) rfl #[.int .i64 a3,.int .i64 a4,.int .i64 (wrap64 (t311-4)),.int .i64 3] rfl (by (try simp only [List.map_toArray,List.map_cons,List.map_nil]);first | done | rfl | (simp only [List.length_drop,List.length_take];rfl)) ?_;(with_reducible refine (spec_qrFar.calls a3 a4 (wrap64 (t311-4)) 3 t315 _ A16.out).mono ?_);rintro e w23 ⟨rfl,hb⟩;refine⟨_,rfl,?_⟩;have n0_:=Aside0.mk (below_step (by repeat (first | (with_reducible first | exact HB.out | apply below_alloc | apply pw_below_drewN | apply below_drew1) | exact HB.out)) hb);clear HB;have HB:=n0_;clear n0_;(try clear hb);(try clear hb2);(try clear hk);(try clear hi)))
       go_ret
       exact⟨by first | rfl | (simp [errW_none,errW_some]<;>rfl) | (simp only [<- hji17,<- hji18];first | rfl | (simp [errW_none,errW_some]<;>rfl)) | (simp [*,errW_none,errW_some]<;>rfl),by repeat (first | (with_reducible first | exact HB.out | apply below_alloc | apply pw_below_drewN | apply below_drew1) | exact HB.out)⟩
      ·rw [if_neg c20] at H
       have c20b0:((ji18)==2)=false:=beq_eq_false_iff_ne.mpr c20
       have c20b1:((ji18) != 2)=true:=bne_iff_ne.mpr c20
       obtain rfl:=Option.some.inj H
       go_wp2_with (first | ((with_reducible refine gate_callee (f:=98) rfl ?_);refine goesL_ (some 38) rfl rfl Tryz.func98 (by kernel_rfl) rfl #[.int .i64 a3,.int .i64 a4,.int .i64 3,.int .i64 3] rfl (by (try simp only [List.map_toArray,List.map_cons,List.map_nil]);first | done | rfl | (simp only [List.length_drop,List.length_take];rfl)) ?_;(with_reducible refine (spec_qrFar.calls a3 a4 3 3 t313 _ A14.out).mono ?_);rintro e w24 ⟨rfl,hb⟩;refine⟨_,rfl,?_⟩;have n0_:=Aside0.mk (below_step (by repeat (first | (with_reducible first | exact HB.out | apply below_alloc | apply pw_below_drewN | apply below_drew1) | exact HB.out)) hb);clear HB;have HB:=n0_;clear n0_;(try clear hb);(try clear hb2);(try clear hk);(try clear hi)) | ((with_reducible refine gate_callee (f:=98) rfl ?_);refine goesL_ (some 43) rfl rfl Tryz.func98 (by kernel_rfl) rfl #[.int .i64 a3,.int .i64 a4,.int .i64 3,.int .i64 (wrap64 (t311-4))] rfl (by (try simp only [List.map_toArray,List.map_cons,List.map_nil]);first | done | rfl | (simp only [List.length_drop,List.length_take];rfl)) ?_;(with_reducible refine (spec_qrFar.calls a3 a4 3 (wrap64 (t311-4)) t314 _ A15.out).mono ?_);rintro e w25 ⟨rfl,hb⟩;refine⟨_,rfl,?_⟩;have n0_:=Aside0.mk (below_step (by repeat (first | (with_reducible first | exact HB.out | apply below_alloc | apply pw_below_drewN | apply below_drew1) | exact HB.out)) hb);clear HB;have HB:=n0_;clear n0_;(try clear hb);(try clear hb2);(try clear hk);(try clear hi)) | ((with_reducible refine gate_callee (f:=98) rfl ?_);refine goesL_ (some 48) rfl rfl Tryz.func98 (by kernel_rfl) rfl #[.int .i64 a3,.int .i64 a4,.int .i64 (wrap64 (t311-4)),.int .i64 3] rfl (by (try simp only [List.map_toArray,List.map_cons,List.map_nil]);first | done | rfl | (simp only [List.length_drop,List.length_take];rfl)) ?_;(with_reducible refine (spec_qrFar.calls a3 a4 (wrap64 (t311-4)) 3 t315 _ A16.out).mono ?_);rintro e w26 ⟨rfl,hb⟩;refine⟨_,rfl,?_⟩;have n0_:=Aside0.mk (below_step (by repeat (first | (with_reducible first | exact HB.out | apply below_alloc | apply pw_below_drewN | apply below_drew1) | exact HB.out)) hb);clear HB;have HB:=n0_;clear n0_;(try clear hb);(try clear hb2);(try clear hk);(try clear hi)))
       go_ret
       exact⟨by first | rfl | (simp [errW_none,errW_some]<;>rfl) | (simp only [<- hji17,<- hji18];first | rfl | (simp [errW_none,errW_some]<;>rfl)) | (simp [*,errW_none,errW_some]<;>rfl),by repeat (first | (with_reducible first | exact HB.out | apply below_alloc | apply pw_below_drewN | apply below_drew1) | exact HB.out)⟩
     ·rw [if_neg c19] at H
      have c19b0:decide ((ji18)<=4)=false:=decide_eq_false c19
      clear c19
      replace H:=Option.bind_eq_some_iff.mp H
      obtain⟨t316,A270,H⟩:=H
      replace H:(if t316≥0 then (some (t316 != 1)) else (if a3=6 then (spec_qrPattern.j1 kj10 a0 a3 a4 t311 true) else (spec_qrPattern.j1 kj10 a0 a3 a4 t311 (a4==6))))=some r:=H
      have A27:=Aside0.mk A270
      clear A270
      by_cases c28:t316≥0
      ·rw [if_pos c28] at H
       have c28b0:decide (0<=t316)=true:=decide_eq_true c28
       clear c28
       obtain rfl:=Option.some.inj H
       go_wp2_with (first | ((with_reducible refine gate_callee (f:=98) rfl ?_);refine goesL_ (some 38) rfl rfl Tryz.func98 (by kernel_rfl) rfl #[.int .i64 a3,.int .i64 a4,.int .i64 3,.int .i64 3] rfl (by (try simp only [List.map_toArray,List.map_cons,List.map_nil]);first | done | rfl | (simp only [List.length_drop,List.length_take];rfl)) ?_;(with_reducible refine (spec_qrFar.calls a3 a4 3 3 t313 _ A14.out).mono ?_);rintro e w29 ⟨rfl,hb⟩;refine⟨_,rfl,?_⟩;have n0_:=Aside0.mk (below_step (by repeat (first | (with_reducible first | exact HB.out | apply below_alloc | apply pw_below_drewN | apply below_drew1) | exact HB.out)) hb);clear HB;have HB:=n0_;clear n0_;(try clear hb);(try clear hb2);(try clear hk);(try clear hi)) | ((with_reducible refine gate_callee (f:=98) rfl ?_);refine goesL_ (some 43) rfl rfl Tryz.func98 (by kernel_rfl) rfl #[.int .i64 a3,.int .i64 a4,.int .i64 3,.int .i64 (wrap64 (t311-4))] rfl (by (try simp only [List.map_toArray,List.map_cons,List.map_nil]);first | done | rfl | (simp only [List.length_drop,List.length_take];rfl)) ?_;(with_reducible refine (spec_qrFar.calls a3 a4 3 (wrap64 (t311-4)) t314 _ A15.out).mono ?_);rintro e w30 ⟨rfl,hb⟩;refine⟨_,rfl,?_⟩;have n0_:=Aside0.mk (below_step (by repeat (first | (with_reducible first | exact HB.out | apply below_alloc | apply pw_below_drewN | apply below_drew1) | exact HB.out)) hb);clear HB;have HB:=n0_;clear n0_;(try clear hb);(try clear hb2);(try clear hk);(try clear hi)) | ((with_reducible refine gate_callee (f:=98) rfl ?_);refine goesL_ (some 48) rfl rfl Tryz.func98 (by kernel_rfl) rfl #[.int .i64 a3,.int .i64 a4,.int .i64 (wrap64 (t311-4)),.int .i64 3] rfl (by (try simp only [List.map_toArray,List.map_cons,List.map_nil]);first | done | rfl | (simp only [List.length_drop,List.length_take];rfl)) ?_;(with_reducible refine (spec_qrFar.calls a3 a4 (wrap64 (t311-4)) 3 t315 _ A16.out).mono ?_);rintro e w31 ⟨rfl,hb⟩;refine⟨_,rfl,?_⟩;have n0_:=Aside0.mk (below_step (by repeat (first | (with_reducible first | exact HB.out | apply below_alloc | apply pw_below_drewN | apply below_drew1) | exact HB.out)) hb);clear HB;have HB:=n0_;clear n0_;(try clear hb);(try clear hb2);(try clear hk);(try clear hi)) | ((with_reducible refine gate_callee (f:=96) rfl ?_);refine goesL_ (some 61) rfl rfl Tryz.func96 (by kernel_rfl) rfl #[.slice A2 l2.length c2,.int .i64 a3,.int .i64 a4] rfl (by (try simp only [List.map_toArray,List.map_cons,List.map_nil]);first | done | rfl | (simp only [List.length_drop,List.length_take];rfl)) ?_;(with_reducible refine (spec_qrAlign.calls kj10 _ _ l2 a3 a4 t316 _ ?side1 ?side2 A27.out).mono ?_);(case side1=>repeat (first | exact (Kd.C_below HR2.out HB.out) | (with_reducible refine Kd.C_alloc ?_ _) | (with_reducible refine Kd.C_drewN ?_ _) | (with_reducible refine Kd.C_drew ?_)));(case side2=>exact HC2.out);rintro e w32 ⟨rfl,hb⟩;refine⟨_,rfl,?_⟩;have n0_:=Aside0.mk (below_step (by repeat (first | (with_reducible first | exact HB.out | apply below_alloc | apply pw_below_drewN | apply below_drew1) | exact HB.out)) hb);clear HB;have HB:=n0_;clear n0_;(try clear hb);(try clear hb2);(try clear hk);(try clear hi)))
       go_ret
       exact⟨by first | rfl | (simp [errW_none,errW_some]<;>rfl) | (simp only [<- hji17,<- hji18];first | rfl | (simp [errW_none,errW_some]<;>rfl)) | (simp [*,errW_none,errW_some]<;>rfl),by repeat (first | (with_reducible first | exact HB.out | apply below_alloc | apply pw_below_drewN | apply below_drew1) | exact HB.out)⟩
      ·rw [if_neg c28] at H
       have c28b0:decide (0<=t316)=false:=decide_eq_false c28
       clear c28
       have HC33:=Aside0.mk H
       clear H
       go_upto_region 13 with (first | ((with_reducible refine gate_callee (f:=98) rfl ?_);refine goesL_ (some 38) rfl rfl Tryz.func98 (by kernel_rfl) rfl #[.int .i64 a3,.int .i64 a4,.int .i64 3,.int .i64 3] rfl (by (try simp only [List.map_toArray,List.map_cons,List.map_nil]);first | done | rfl | (simp only [List.length_drop,List.length_take];rfl)) ?_;(with_reducible refine (spec_qrFar.calls a3 a4 3 3 t313 _ A14.out).mono ?_);rintro e w34 ⟨rfl,hb⟩;refine⟨_,rfl,?_⟩;have n0_:=Aside0.mk (below_step (by repeat (first | (with_reducible first | exact HB.out | apply below_alloc | apply pw_below_drewN | apply below_drew1) | exact HB.out)) hb);clear HB;have HB:=n0_;clear n0_;(try clear hb);(try clear hb2);(try clear hk);(try clear hi)) | ((with_reducible refine gate_callee (f:=98) rfl ?_);refine goesL_ (some 43) rfl rfl Tryz.func98 (by kernel_rfl) rfl #[.int .i64 a3,.int .i64 a4,.int .i64 3,.int .i64 (wrap64 (t311-4))] rfl (by (try simp only [List.map_toArray,List.map_cons,List.map_nil]);first | done | rfl | (simp only [List.length_drop,List.length_take];rfl)) ?_;(with_reducible refine (spec_qrFar.calls a3 a4 3 (wrap64 (t311-4)) t314 _ A15.out).mono ?_);rintro e w35 ⟨rfl,hb⟩;refine⟨_,rfl,?_⟩;have n0_:=Aside0.mk (below_step (by repeat (first | (with_reducible first | exact HB.out | apply below_alloc | apply pw_below_drewN | apply below_drew1) | exact HB.out)) hb);clear HB;have HB:=n0_;clear n0_;(try clear hb);(try clear hb2);(try clear hk);(try clear hi)) | ((with_reducible refine gate_callee (f:=98) rfl ?_);refine goesL_ (some 48) rfl rfl Tryz.func98 (by kernel_rfl) rfl #[.int .i64 a3,.int .i64 a4,.int .i64 (wrap64 (t311-4)),.int .i64 3] rfl (by (try simp only [List.map_toArray,List.map_cons,List.map_nil]);first | done | rfl | (simp only [List.length_drop,List.length_take];rfl)) ?_;(with_reducible refine (spec_qrFar.calls a3 a4 (wrap64 (t311-4)) 3 t315 _ A16.out).mono ?_);rintro e w36 ⟨rfl,hb⟩;refine⟨_,rfl,?_⟩;have n0_:=Aside0.mk (below_step (by repeat (first | (with_reducible first | exact HB.out | apply below_alloc | apply pw_below_drewN | apply below_drew1) | exact HB.out)) hb);clear HB;have HB:=n0_;clear n0_;(try clear hb);(try clear hb2);(try clear hk);(try clear hi)) | ((with_reducible refine gate_callee (f:=96) rfl ?_);refine goesL_ (some 61) rfl rfl Tryz.func96 (by kernel_rfl) rfl #[.slice A2 l2.length c2,.int .i64 a3,.int .i64 a4] rfl (by (try simp only [List.map_toArray,List.map_cons,List.map_nil]);first | done | rfl | (simp only [List.length_drop,List.length_take];rfl)) ?_;(with_reducible refine (spec_qrAlign.calls kj10 _ _ l2 a3 a4 t316 _ ?side1 ?side2 A27.out).mono ?_);(case side1=>repeat (first | exact (Kd.C_below HR2.out HB.out) | (with_reducible refine Kd.C_alloc ?_ _) | (with_reducible refine Kd.C_drewN ?_ _) | (with_reducible refine Kd.C_drew ?_)));(case side2=>exact HC2.out);rintro e w37 ⟨rfl,hb⟩;refine⟨_,rfl,?_⟩;have n0_:=Aside0.mk (below_step (by repeat (first | (with_reducible first | exact HB.out | apply below_alloc | apply pw_below_drewN | apply below_drew1) | exact HB.out)) hb);clear HB;have HB:=n0_;clear n0_;(try clear hb);(try clear hb2);(try clear hk);(try clear hi)))
       (try simp only [Act.put,List.setIfInBounds_toArray,List.set_cons_zero,List.set_cons_succ])
       go_cut [71] (fun v71 wc=>∃ (kq:Nat) (x71_32:Bool),v71=.bool x71_32/\Aside0 (spec_qrPattern.j1 kq a0 a3 a4 t311 x71_32=some r)/\Aside0 (kq<=kj10)/\Aside0 (Below w.heap.size w wc))
       case first=>
        have H:=HC33.out
        clear HC33
        by_cases c38:a3=6
        ·rw [if_pos c38] at H
         have c38b0:(a3==6)=true:=beq_iff_eq.mpr c38
         have c38b1:(a3 != 6)=false:=bne_eq_false_iff_eq.mpr c38
         clear c38
         (first | rw [c38b0] | (simp only [i64_w,i32_w];rw [c38b0]) | skip)
         have H':=Aside0.mk H
         clear H
         go_wp2
         go_meet
         case rel=>exact⟨_,(true),(by first | rfl | (simp;done) | (simp [*];done)),H',⟨by have:=HJ10.out;first | omega | exact Nat.le_refl _⟩,⟨by repeat (first | (with_reducible first | exact HB.out | apply below_alloc | apply pw_below_drewN | apply below_drew1) | exact HB.out)⟩⟩
        ·rw [if_neg c38] at H
         have c38b0:(a3==6)=false:=beq_eq_false_iff_ne.mpr c38
         have c38b1:(a3 != 6)=true:=bne_iff_ne.mpr c38
         (first | rw [c38b0] | (simp only [i64_w,i32_w];rw [c38b0]) | skip)
         have H':=Aside0.mk H
         clear H
         go_wp2
         go_meet
         case rel=>exact⟨_,((a4==6)),(by first | rfl | (simp;done) | (simp [*];done)),H',⟨by have:=HJ10.out;first | omega | exact Nat.le_refl _⟩,⟨by repeat (first | (with_reducible first | exact HB.out | apply below_alloc | apply pw_below_drewN | apply below_drew1) | exact HB.out)⟩⟩
       case rest=>
        clear HC33
        try clear c1
        try clear c2
        try clear p2
        try clear c3
        try clear c4
        try clear c5
        try clear p6
        try clear c8
        try clear c8b0
        try clear c9
        try clear c9b0
        try clear c9b1
        try clear c12
        try clear c12b0
        try clear c12b1
        try clear c13
        try clear c19
        try clear c19b0
        try clear c20
        try clear c20b0
        try clear c20b1
        try clear c28
        try clear c28b0
        try clear c38
        try clear c38b0
        try clear c38b1
        try clear p2
        try clear p6
        obtain⟨kq,x71_32,rfl,HA,HJ32,HB⟩:=hcut
        cases kq with
        | zero=>exact absurd HA.out (by simp [spec_qrPattern.j1])
        | succ kj32=>
         have H:=HA.out
         clear HA
         simp only [spec_qrPattern.j1] at H
         by_cases c39:x71_32=true
         ·subst c39
          have H1:(some ((Int.tmod (wrap64 (a3+a4)) 2)==0))=some r:=by rw [if_pos rfl] at H;exact H
          clear H
          have H:=H1
          clear H1
          obtain rfl:=Option.some.inj H
          go_wp2
          go_ret
          exact⟨by first | rfl | (simp [errW_none,errW_some]<;>rfl) | (simp only [<- hji17,<- hji18];first | rfl | (simp [errW_none,errW_some]<;>rfl)) | (simp [*,errW_none,errW_some]<;>rfl),by repeat (first | (with_reducible first | exact HB.out | apply below_alloc | apply pw_below_drewN | apply below_drew1) | exact HB.out)⟩
         ·replace c39:=Bool.eq_false_iff.mpr c39
          subst c39
          have H1:(if a3<a4 then ((spec_QRVersionBits.f kj32 a0).bind fun t317=>(if 0<=(wrap64 ((wrap64 ((wrap64 ((wrap64 (a3*3))+a4))-t311))+11)) then (some ((Go.bits .and .i64 (shr .i64 t317 (wrap64 ((wrap64 ((wrap64 ((wrap64 (a3*3))+a4))-t311))+11))) 1)==1)) else (none))) else ((spec_QRVersionBits.f kj32 a0).bind fun t318=>(if 0<=(wrap64 ((wrap64 ((wrap64 ((wrap64 (a4*3))+a3))-t311))+11)) then (some ((Go.bits .and .i64 (shr .i64 t318 (wrap64 ((wrap64 ((wrap64 ((wrap64 (a4*3))+a3))-t311))+11))) 1)==1)) else (none))))=some r:=by rw [if_neg (show ¬ (false=true) by decide)] at H;exact H
          clear H
          have H:=H1
          clear H1
          by_cases c40:a3<a4
          ·rw [if_pos c40] at H
           have c40b0:decide (a3<a4)=true:=decide_eq_true c40
           clear c40
           replace H:=Option.bind_eq_some_iff.mp H
           obtain⟨t317,A410,H⟩:=H
           replace H:(if 0<=(wrap64 ((wrap64 ((wrap64 ((wrap64 (a3*3))+a4))-t311))+11)) then (some ((Go.bits .and .i64 (shr .i64 t317 (wrap64 ((wrap64 ((wrap64 ((wrap64 (a3*3))+a4))-t311))+11))) 1)==1)) else (none))=some r:=H
           have A41:=Aside0.mk A410
           clear A410
           obtain⟨ji42,hji42⟩:∃ j_:Int,(wrap64 ((wrap64 ((wrap64 ((wrap64 (a3*3))+a4))-t311))+11))=j_:=⟨_,rfl⟩
           replace H:(if 0<=(ji42) then (some ((Go.bits .and .i64 (shr .i64 t317 (ji42)) 1)==1)) else (none))=some r:=by first | (rw [hji42] at H;exact H) | (simp only [hji42] at H ⊢;exact H)
           (try rw [hji42] at A41)
           have hji42w:(IntKind.i64.wrap ((wrap64 ((wrap64 ((wrap64 (a3*3))+a4))-t311))+11))=ji42:=(i64_w _).trans hji42
           by_cases c43:0<=(ji42)
           ·rw [if_pos c43] at H
            have c43b0:=eq_true c43
            have c43b1:decide (0<=(ji42))=true:=decide_eq_true c43
            clear c43
            obtain⟨ji44,hji44⟩:∃ j_:Int,(shr .i64 t317 (ji42))=j_:=⟨_,rfl⟩
            replace H:(some ((Go.bits .and .i64 (ji44) 1)==1))=some r:=by first | (rw [hji44] at H;exact H) | (simp only [hji44] at H ⊢;exact H)
            (try rw [hji44] at A41)
            have hji44_:(t317/2 ^ min (ji42).toNat 64)=ji44:=hji44
            have hji44z:(ji42)<=64->(t317/2 ^ (ji42).toNat)=ji44:=shr_small hji44
            obtain rfl:=Option.some.inj H
            go_wp2_with (first | ((with_reducible refine gate_callee (f:=99) rfl ?_);refine goesL_ (some 81) rfl rfl Tryz.func99 (by kernel_rfl) rfl #[.int .i64 a0] rfl (by (try simp only [List.map_toArray,List.map_cons,List.map_nil]);first | done | rfl | (simp only [List.length_drop,List.length_take];rfl)) ?_;(with_reducible refine (spec_QRVersionBits.calls kj32 a0 t317 _ A41.out).mono ?_);rintro e w' ⟨rfl,⟨nd,rfl⟩⟩;refine⟨_,rfl,?_⟩))
            go_ret
            exact⟨by first | rfl | (simp [errW_none,errW_some]<;>rfl) | (simp only [<- hji17,<- hji18,<- hji42,<- hji44];first | rfl | (simp [errW_none,errW_some]<;>rfl)) | (simp [*,errW_none,errW_some]<;>rfl),by repeat (first | (with_reducible first | exact HB.out | apply below_alloc | apply pw_below_drewN | apply below_drew1) | exact HB.out)⟩
           ·rw [if_neg c43] at H
            exact absurd H (by simp)
          ·rw [if_neg c40] at H
           have c40b0:decide (a3<a4)=false:=decide_eq_false c40
           clear c40
           replace H:=Option.bind_eq_some_iff.mp H
           obtain⟨t318,A450,H⟩:=H
           replace H:(if 0<=(wrap64 ((wrap64 ((wrap64 ((wrap64 (a4*3))+a3))-t311))+11)) then (some ((Go.bits .and .i64 (shr .i64 t318 (wrap64 ((wrap64 ((wrap64 ((wrap64 (a4*3))+a3))-t311))+11))) 1)==1)) else (none))=some r:=H
           have A45:=Aside0.mk A450
           clear A450
           obtain⟨ji46,hji46⟩:∃ j_:Int,(wrap64 ((wrap64 ((wrap64 ((wrap64 (a4*3))+a3))-t311))+11))=j_:=⟨_,rfl⟩
           replace H:(if 0<=(ji46) then (some ((Go.bits .and .i64 (shr .i64 t318 (ji46)) 1)==1)) else (none))=some r:=by first | (rw [hji46] at H;exact H) | (simp only [hji46] at H ⊢;exact H)
           (try rw [hji46] at A45)
           have hji46w:(IntKind.i64.wrap ((wrap64 ((wrap64 ((wrap64 (a4*3))+a3))-t311))+11))=ji46:=(i64_w _).trans hji46
           by_cases c47:0<=(ji46)
           ·rw [if_pos c47] at H
            have c47b0:=eq_true c47
            have c47b1:decide (0<=(ji46))=true:=decide_eq_true c47
            clear c47
            obtain⟨ji48,hji48⟩:∃ j_:Int,(shr .i64 t318 (ji46))=j_:=⟨_,rfl⟩
            replace H:(some ((Go.bits .and .i64 (ji48) 1)==1))=some r:=by first | (rw [hji48] at H;exact H) | (simp only [hji48] at H ⊢;exact H)
            (try rw [hji48] at A45)
            have hji48_:(t318/2 ^ min (ji46).toNat 64)=ji48:=hji48
            have hji48z:(ji46)<=64->(t318/2 ^ (ji46).toNat)=ji48:=shr_small hji48
            obtain rfl:=Option.some.inj H
            go_wp2_with (first | ((with_reducible refine gate_callee (f:=99) rfl ?_);refine goesL_ (some 93) rfl rfl Tryz.func99 (by kernel_rfl) rfl #[.int .i64 a0] rfl (by (try simp only [List.map_toArray,List.map_cons,List.map_nil]);first | done | rfl | (simp only [List.length_drop,List.length_take];rfl)) ?_;(with_reducible refine (spec_QRVersionBits.calls kj32 a0 t318 _ A45.out).mono ?_);rintro e w' ⟨rfl,⟨nd,rfl⟩⟩;refine⟨_,rfl,?_⟩))
            go_ret
            exact⟨by first | rfl | (simp [errW_none,errW_some]<;>rfl) | (simp only [<- hji17,<- hji18,<- hji46,<- hji48];first | rfl | (simp [errW_none,errW_some]<;>rfl)) | (simp [*,errW_none,errW_some]<;>rfl),by repeat (first | (with_reducible first | exact HB.out | apply below_alloc | apply pw_below_drewN | apply below_drew1) | exact HB.out)⟩
           ·rw [if_neg c47] at H
            exact absurd H (by simp)
end Go.Proofs.YtgccjgpdjkhpdaaGreat.F
