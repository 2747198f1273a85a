import Derived.Test.YtgccjgpdjkhpdaaGreatVErrors7
import Derived.Test.YtgccjgpdjkhpdaaGreatVErrors11
open Go.Proofs.YtgccjgpdjkhpdaaGreatW.PrintWords.Aside0 renaming mk→Mw
open List renaming map_toArray→Mx,map_cons→My,map_nil→Mz
/-! Own texts of this claim, part 13. -/
namespace Go.Proofs.YtgccjgpdjkhpdaaGreat.F
open Go.RowKit Go.Proofs.YtgccjgpdjkhpdaaGreatW.PrintWords Go.Proofs.YtgccjgpdjkhpdaaGreatW.PrintLast Go.Proofs.YtgccjgpdjkhpdaaGreatW.PrintMore
attribute [local go_sem] fB fC fD fE fF fG fH fI
set_option linter.unusedVariables false
set_option linter.unusedSimpArgs false
mutual
def aH.j0:Nat->Int->List Int->Int->Int->Int->Bool->Option (Bool)
 | 0,_,_,_,_,_,_=>none
 | k+1,x0,x2,x3,x4,x11,x35=>if x35=true then (some true) else ((dB.f x3 x4 3 3).bind fun t313=>((dB.f x3 x4 3 (wrap64 (x11-4))).bind fun t314=>((dB.f x3 x4 (wrap64 (x11-4)) 3).bind fun t315=>(if (mn (mn t313 t314) t315)<=4 then (if (mn (mn t313 t314) t315)=2 then (some false) else (some ((mn (mn t313 t314) t315) != 4))) else ((ah.f k x2 x3 x4).bind fun t316=>(if t316≥0 then (some (t316 != 1)) else (if x3=6 then (aH.j1 k x0 x3 x4 x11 true) else (aH.j1 k x0 x3 x4 x11 (x4==6)))))))))
def aH.j1:Nat->Int->Int->Int->Int->Bool->Option (Bool)
 | 0,_,_,_,_,_=>none
 | k+1,x0,x3,x4,x11,x71=>if x71=true then (some ((Int.tmod (wrap64 (x3+x4)) 2)==0)) else (if x3<x4 then ((fJ.f k x0).bind fun t317=>(if 0<=(wrap64 ((wrap64 ((wrap64 ((wrap64 (x3*3))+x4))-x11))+11)) then (some ((Go.bits .and .i64 (eZ .i64 t317 (wrap64 ((wrap64 ((wrap64 ((wrap64 (x3*3))+x4))-x11))+11))) 1)==1)) else (none))) else ((fJ.f k x0).bind fun t318=>(if 0<=(wrap64 ((wrap64 ((wrap64 ((wrap64 (x4*3))+x3))-x11))+11)) then (some ((Go.bits .and .i64 (eZ .i64 t318 (wrap64 ((wrap64 ((wrap64 ((wrap64 (x4*3))+x3))-x11))+11))) 1)==1)) else (none))))
end
def aH.f (k:Nat)(a0:Int)(a1:Int)(l2:List Int)(a3:Int)(a4:Int):Option (Bool):=(dI.f a0).bind fun t311=>((am.f k t311 a3 a4).bind fun t312=>(if t312≥0 then (if 0<=t312 then (some ((Go.bits .and .i64 (eZ .i64 a1 t312) 1)==1)) else (none)) else (if a3=(wrap64 (t311-8)) then (aH.j0 k a0 l2 a3 a4 t311 (a4==8)) else (aH.j0 k a0 l2 a3 a4 t311 false))))
theorem aH.mono_l:∀ k,(∀ y0 y1 y2 y3 y4 y5,ae (aH.j0 k y0 y1 y2 y3 y4 y5) (aH.j0 (k+1) y0 y1 y2 y3 y4 y5))/\(∀ y0 y1 y2 y3 y4,ae (aH.j1 k y0 y1 y2 y3 y4) (aH.j1 (k+1) y0 y1 y2 y3 y4))
 | 0=>⟨fun _ _ _ _ _ _ r h=>by simp [aH.j0] at h,fun _ _ _ _ _ r h=>by simp [aH.j1] at h⟩
 | k+1=>by
  obtain⟨ih0,ih1⟩:=aH.mono_l k;refine⟨?_,?_⟩;rotate_left
  ·intro y0 y1 y2 y3 y4;unfold aH.j1
   repeat' first
   | (with_reducible exact fJ.mono _ _)
   | (with_reducible exact ae.refl _)
   | (with_reducible refine ae.ite ?_ ?_)
   | (with_reducible refine ae.bind ?_ (fun _=>?_))
  intro y0 y1 y2 y3 y4 y5;unfold aH.j0
  repeat' first
  | (with_reducible exact ih1 _ _ _ _ _)
  | (with_reducible exact ah.mono _ _ _ _)
  | (with_reducible exact ae.refl _)
  | (with_reducible refine ae.ite ?_ ?_)
  | (with_reducible refine ae.bind ?_ (fun _=>?_))
theorem aH.mono:∀ a0 a1 a2 a3 a4 k,ae (aH.f k a0 a1 a2 a3 a4) (aH.f (k+1) a0 a1 a2 a3 a4):=by
 intro a0 a1 a2 a3 a4 k;obtain⟨ih0,ih1⟩:=aH.mono_l k;unfold aH.f
 repeat' first
   | (with_reducible exact ih0 _ _ _ _ _ _)
   | (with_reducible exact am.mono _ _ _ _)
   | (with_reducible exact ae.refl _)
   | (with_reducible refine ae.ite ?_ ?_)
   | (with_reducible refine ae.bind ?_ (fun _=>?_))
set_option maxHeartbeats 8000000 in
set_option maxRecDepth 100000 in
theorem aH.calls (k:Nat)(a0:Int)(a1:Int)(A2:Option Addr)(c2:Nat)(l2:List Int)(a3:Int)(a4:Int)(r:Bool)(w:World)(hr2:Kd.C (Kd.int .i64) w A2 l2.length l2)(hc2:l2.length<=c2)(h:aH.f k a0 a1 l2 a3 a4=some r) :
  Calls Tryz.prog 50 #[.int .i64 a0,.int .i64 a1,.slice A2 l2.length c2,.int .i64 a3,.int .i64 a4] w fun e w'=>e=.returned (.bool r)/\Below w.heap.size w w':=by
 have HR2:=Mw hr2;have HC2:=Mw hc2;clear hr2 hc2;have HB:=Mw (Below.refl w.heap.size w);have H:((dI.f a0).bind fun t311=>((am.f k t311 a3 a4).bind fun t312=>(if t312≥0 then (if 0<=t312 then (some ((Go.bits .and .i64 (eZ .i64 a1 t312) 1)==1)) else (none)) else (if a3=(wrap64 (t311-8)) then (aH.j0 k a0 l2 a3 a4 t311 (a4==8)) else (aH.j0 k a0 l2 a3 a4 t311 false)))))=some r:=h;clear h;obtain⟨t311,A6,H⟩:=dE H;obtain⟨t312,A7,H⟩:=dE H;by_cases c8:t312≥0
 ·rw [if_pos c8] at H;have c8b0:=decide_eq_true c8;clear c8;obtain⟨c9,H⟩:=bE H;have c9b0:=eq_true c9;have c9b1:=decide_eq_true c9;clear c9;obtain⟨ji10,hji10⟩:∃ j_:Int,(eZ .i64 a1 t312)=j_:=⟨_,rfl⟩;replace H:(some ((Go.bits .and .i64 (ji10) 1)==1))=some r:=by first | (rw [hji10] at H;exact H)
  have hji10_:(a1/2 ^ min t312.toNat 64)=ji10:=hji10;have hji10z:t312<=64->(a1/2 ^ t312.toNat)=ji10:=qd hji10;obtain rfl:=Option.some.inj H
  go_enter Tryz.func50,Tryz.ntmps50
  go_wp2_with (first | ((with_reducible refine bg (f:=46) rfl ?_);refine be (some 16) rfl rfl Tryz.func46 (by kernel_rfl) rfl #[.int .i64 a0] rfl (by (try simp only [Mx,My,Mz]);first | rfl ) ?_;(with_reducible refine (dI.calls a0 t311 _ A6.out).mono ?_);rintro e w' ⟨rfl,⟨nd,rfl⟩⟩;refine⟨_,rfl,?_⟩) | ((with_reducible refine bg (f:=97) rfl ?_);refine be (some 20) rfl rfl Tryz.func97 (by kernel_rfl) rfl #[.int .i64 t311,.int .i64 a3,.int .i64 a4] rfl (by (try simp only [Mx,My,Mz]);first | rfl ) ?_;(with_reducible refine (am.calls k t311 a3 a4 t312 _ A7.out).mono ?_);rintro e w' ⟨rfl,⟨nd,rfl⟩⟩;refine⟨_,rfl,?_⟩))
  go_ret
  exact⟨by first | rfl ,by repeat (first | (with_reducible first | exact HB.out | apply au ) )⟩
 rw [if_neg c8] at H;have c8b0:=decide_eq_false c8;clear c8;have HC11:=Mw H;clear H
 go_enter Tryz.func50,Tryz.ntmps50
 go_upto_region 5 with (first | ((with_reducible refine bg (f:=46) rfl ?_);refine be (some 16) rfl rfl Tryz.func46 (by kernel_rfl) rfl #[.int .i64 a0] rfl (by (try simp only [Mx,My,Mz]);first | rfl ) ?_;(with_reducible refine (dI.calls a0 t311 _ A6.out).mono ?_);rintro e w' ⟨rfl,⟨nd,rfl⟩⟩;refine⟨_,rfl,?_⟩) | ((with_reducible refine bg (f:=97) rfl ?_);refine be (some 20) rfl rfl Tryz.func97 (by kernel_rfl) rfl #[.int .i64 t311,.int .i64 a3,.int .i64 a4] rfl (by (try simp only [Mx,My,Mz]);first | rfl ) ?_;(with_reducible refine (am.calls k t311 a3 a4 t312 _ A7.out).mono ?_);rintro e w' ⟨rfl,⟨nd,rfl⟩⟩;refine⟨_,rfl,?_⟩))
 go_cut [35] (fun v35 wc=>∃ (kq:Nat) (x35_10:Bool),v35=.bool x35_10/\Aside0 (aH.j0 kq a0 l2 a3 a4 t311 x35_10=some r)/\Aside0 (kq<=k)/\Aside0 (Below w.heap.size w wc))
 case first=>
  have H:=HC11.out;clear HC11;by_cases c12:a3=(wrap64 (t311-8));rotate_left
  ·rw [if_neg c12] at H;have c12b0:(a3==(wrap64 (t311-8)))=false:=beq_eq_false_iff_ne.mpr c12;have c12b1:(a3 != (wrap64 (t311-8)))=true:=bne_iff_ne.mpr c12
   (skip)
   have H':=Mw H;clear H
   go_wp2
   go_meet
   case rel=>exact⟨_,(false),rfl,H',⟨by first | omega ⟩,⟨by repeat (first | (with_reducible first | exact HB.out | apply au ) )⟩⟩
  rw [if_pos c12] at H;have c12b0:(a3==(wrap64 (t311-8)))=true:=beq_iff_eq.mpr c12;have c12b1:(a3 != (wrap64 (t311-8)))=false:=bne_eq_false_iff_eq.mpr c12;clear c12
  (skip)
  have H':=Mw H;clear H
  go_wp2
  go_meet
  case rel=>exact⟨_,((a4==8)),rfl,H',⟨by first | omega ⟩,⟨by repeat (first | (with_reducible first | exact HB.out | apply au ) )⟩⟩
 case rest=>
  clear HC11 c8b0;obtain⟨kq,x35_10,rfl,HA,HJ10,HB⟩:=hcut;cases kq with
  | zero=>exact absurd HA.out (by simp [aH.j0])
  | succ kj10=>
   have H:=HA.out;clear HA;simp only [aH.j0] at H;by_cases c13:x35_10=true
   ·subst c13;have H1:(some true)=some r:=by rw [if_pos rfl] at H;exact H
    clear H;have H:=H1;clear H1;obtain rfl:=Option.some.inj H
    go_wp2
    go_ret
    exact⟨by first | rfl ,by repeat (first | (with_reducible first | exact HB.out ) )⟩
   replace c13:=Bool.eq_false_iff.mpr c13;subst c13;have H1:((dB.f a3 a4 3 3).bind fun t313=>((dB.f a3 a4 3 (wrap64 (t311-4))).bind fun t314=>((dB.f a3 a4 (wrap64 (t311-4)) 3).bind fun t315=>(if (mn (mn t313 t314) t315)<=4 then (if (mn (mn t313 t314) t315)=2 then (some false) else (some ((mn (mn t313 t314) t315) != 4))) else ((ah.f kj10 l2 a3 a4).bind fun t316=>(if t316≥0 then (some (t316 != 1)) else (if a3=6 then (aH.j1 kj10 a0 a3 a4 t311 true) else (aH.j1 kj10 a0 a3 a4 t311 (a4==6)))))))))=some r:=by rw [if_neg (show ¬ (false=true) by decide)] at H;exact H
   clear H;have H:=H1;clear H1;obtain⟨t313,A14,H⟩:=dE H;obtain⟨t314,A15,H⟩:=dE H;obtain⟨t315,A16,H⟩:=dE H;obtain⟨ji17,hji17⟩:∃ j_:Int,(mn t313 t314)=j_:=⟨_,rfl⟩;replace H:(if (mn (ji17) t315)<=4 then (if (mn (ji17) t315)=2 then (some false) else (some ((mn (ji17) t315) != 4))) else ((ah.f kj10 l2 a3 a4).bind fun t316=>(if t316≥0 then (some (t316 != 1)) else (if a3=6 then (aH.j1 kj10 a0 a3 a4 t311 true) else (aH.j1 kj10 a0 a3 a4 t311 (a4==6))))))=some r:=by first | (rw [hji17] at H;exact H)
   have hji17_:(if t314<t313 then t314 else t313)=ji17:=hji17;obtain⟨ji18,hji18⟩:∃ j_:Int,(mn (ji17) t315)=j_:=⟨_,rfl⟩;replace H:(if (ji18)<=4 then (if (ji18)=2 then (some false) else (some ((ji18) != 4))) else ((ah.f kj10 l2 a3 a4).bind fun t316=>(if t316≥0 then (some (t316 != 1)) else (if a3=6 then (aH.j1 kj10 a0 a3 a4 t311 true) else (aH.j1 kj10 a0 a3 a4 t311 (a4==6))))))=some r:=by first | (rw [hji18] at H;exact H)
   have hji18_:(if t315<(ji17) then t315 else (ji17))=ji18:=hji18;by_cases c19:(ji18)<=4
   ·rw [if_pos c19] at H;have c19b0:=decide_eq_true c19;clear c19;by_cases c20:(ji18)=2;rotate_left
    ·rw [if_neg c20] at H;have c20b0:((ji18)==2)=false:=beq_eq_false_iff_ne.mpr c20;have c20b1:((ji18) != 2)=true:=bne_iff_ne.mpr c20;obtain rfl:=Option.some.inj H
     go_wp2_with (first | ((with_reducible refine bg (f:=98) rfl ?_);refine be (some 38) rfl rfl Tryz.func98 (by kernel_rfl) rfl #[.int .i64 a3,.int .i64 a4,.int .i64 3,.int .i64 3] rfl (by (try simp only [Mx,My,Mz]);first | rfl ) ?_;(with_reducible refine (dB.calls a3 a4 3 3 t313 _ A14.out).mono ?_);rintro e w24 ⟨rfl,hb⟩;refine⟨_,rfl,?_⟩;have n0_:=Mw (bo (by repeat (first | (with_reducible first | exact HB.out ) )) hb);clear HB;have HB:=n0_;clear n0_;(try clear hb)) | ((with_reducible refine bg (f:=98) rfl ?_);refine be (some 43) rfl rfl Tryz.func98 (by kernel_rfl) rfl #[.int .i64 a3,.int .i64 a4,.int .i64 3,.int .i64 (wrap64 (t311-4))] rfl (by (try simp only [Mx,My,Mz]);first | rfl ) ?_;(with_reducible refine (dB.calls a3 a4 3 (wrap64 (t311-4)) t314 _ A15.out).mono ?_);rintro e w25 ⟨rfl,hb⟩;refine⟨_,rfl,?_⟩;have n0_:=Mw (bo (by repeat (first | (with_reducible first | exact HB.out ) )) hb);clear HB;have HB:=n0_;clear n0_;(try clear hb)) | ((with_reducible refine bg (f:=98) rfl ?_);refine be (some 48) rfl rfl Tryz.func98 (by kernel_rfl) rfl #[.int .i64 a3,.int .i64 a4,.int .i64 (wrap64 (t311-4)),.int .i64 3] rfl (by (try simp only [Mx,My,Mz]);first | rfl ) ?_;(with_reducible refine (dB.calls a3 a4 (wrap64 (t311-4)) 3 t315 _ A16.out).mono ?_);rintro e w26 ⟨rfl,hb⟩;refine⟨_,rfl,?_⟩;have n0_:=Mw (bo (by repeat (first | (with_reducible first | exact HB.out ) )) hb);clear HB;have HB:=n0_;clear n0_;(try clear hb)))
     go_ret
     exact⟨by first | rfl ,by repeat (first | (with_reducible first | exact HB.out ) )⟩
    rw [if_pos c20] at H;have c20b0:((ji18)==2)=true:=beq_iff_eq.mpr c20;have c20b1:((ji18) != 2)=false:=bne_eq_false_iff_eq.mpr c20;clear c20;obtain rfl:=Option.some.inj H
    go_wp2_with (first | ((with_reducible refine bg (f:=98) rfl ?_);refine be (some 38) rfl rfl Tryz.func98 (by kernel_rfl) rfl #[.int .i64 a3,.int .i64 a4,.int .i64 3,.int .i64 3] rfl (by (try simp only [Mx,My,Mz]);first | rfl ) ?_;(with_reducible refine (dB.calls a3 a4 3 3 t313 _ A14.out).mono ?_);rintro e w21 ⟨rfl,hb⟩;refine⟨_,rfl,?_⟩;have n0_:=Mw (bo (by repeat (first | (with_reducible first | exact HB.out ) )) hb);clear HB;have HB:=n0_;clear n0_;(try clear hb)) | ((with_reducible refine bg (f:=98) rfl ?_);refine be (some 43) rfl rfl Tryz.func98 (by kernel_rfl) rfl #[.int .i64 a3,.int .i64 a4,.int .i64 3,.int .i64 (wrap64 (t311-4))] rfl (by (try simp only [Mx,My,Mz]);first | rfl ) ?_;(with_reducible refine (dB.calls a3 a4 3 (wrap64 (t311-4)) t314 _ A15.out).mono ?_);rintro e w22 ⟨rfl,hb⟩;refine⟨_,rfl,?_⟩;have n0_:=Mw (bo (by repeat (first | (with_reducible first | exact HB.out ) )) hb);clear HB;have HB:=n0_;clear n0_;(try clear hb)) | ((with_reducible refine bg (f:=98) rfl ?_);refine be (some 48) rfl rfl Tryz.func98 (by kernel_rfl) rfl #[.int .i64 a3,.int .i64 a4,.int .i64 (wrap64 (t311-4)),.int .i64 3] rfl (by (try simp only [Mx,My,Mz]);first | rfl ) ?_;(with_reducible refine (dB.calls a3 a4 (wrap64 (t311-4)) 3 t315 _ A16.out).mono ?_);rintro e w23 ⟨rfl,hb⟩;refine⟨_,rfl,?_⟩;have n0_:=Mw (bo (by repeat (first | (with_reducible first | exact HB.out ) )) hb);clear HB;have HB:=n0_;clear n0_;(try clear hb)))
    go_ret
    exact⟨by first | rfl ,by repeat (first | (with_reducible first | exact HB.out ) )⟩
   rw [if_neg c19] at H;have c19b0:=decide_eq_false c19;clear c19;obtain⟨t316,A27,H⟩:=dE H;by_cases c28:t316≥0
   ·rw [if_pos c28] at H;have c28b0:=decide_eq_true c28;clear c28;obtain rfl:=Option.some.inj H
    go_wp2_with (first | ((with_reducible refine bg (f:=98) rfl ?_);refine be (some 38) rfl rfl Tryz.func98 (by kernel_rfl) rfl #[.int .i64 a3,.int .i64 a4,.int .i64 3,.int .i64 3] rfl (by (try simp only [Mx,My,Mz]);first | rfl ) ?_;(with_reducible refine (dB.calls a3 a4 3 3 t313 _ A14.out).mono ?_);rintro e w29 ⟨rfl,hb⟩;refine⟨_,rfl,?_⟩;have n0_:=Mw (bo (by repeat (first | (with_reducible first | exact HB.out ) )) hb);clear HB;have HB:=n0_;clear n0_;(try clear hb)) | ((with_reducible refine bg (f:=98) rfl ?_);refine be (some 43) rfl rfl Tryz.func98 (by kernel_rfl) rfl #[.int .i64 a3,.int .i64 a4,.int .i64 3,.int .i64 (wrap64 (t311-4))] rfl (by (try simp only [Mx,My,Mz]);first | rfl ) ?_;(with_reducible refine (dB.calls a3 a4 3 (wrap64 (t311-4)) t314 _ A15.out).mono ?_);rintro e w30 ⟨rfl,hb⟩;refine⟨_,rfl,?_⟩;have n0_:=Mw (bo (by repeat (first | (with_reducible first | exact HB.out ) )) hb);clear HB;have HB:=n0_;clear n0_;(try clear hb)) | ((with_reducible refine bg (f:=98) rfl ?_);refine be (some 48) rfl rfl Tryz.func98 (by kernel_rfl) rfl #[.int .i64 a3,.int .i64 a4,.int .i64 (wrap64 (t311-4)),.int .i64 3] rfl (by (try simp only [Mx,My,Mz]);first | rfl ) ?_;(with_reducible refine (dB.calls a3 a4 (wrap64 (t311-4)) 3 t315 _ A16.out).mono ?_);rintro e w31 ⟨rfl,hb⟩;refine⟨_,rfl,?_⟩;have n0_:=Mw (bo (by repeat (first | (with_reducible first | exact HB.out ) )) hb);clear HB;have HB:=n0_;clear n0_;(try clear hb)) | ((with_reducible refine bg (f:=96) rfl ?_);refine be (some 61) rfl rfl Tryz.func96 (by kernel_rfl) rfl #[.slice A2 l2.length c2,.int .i64 a3,.int .i64 a4] rfl (by (try simp only [Mx,My,Mz]);first | rfl ) ?_;(with_reducible refine (ah.calls kj10 _ _ l2 a3 a4 t316 _ ?side1 ?side2 A27.out).mono ?_);(case side1=>repeat (first | exact (Kd.bB HR2.out HB.out) ));(case side2=>exact HC2.out);rintro e w32 ⟨rfl,hb⟩;refine⟨_,rfl,?_⟩;have n0_:=Mw (bo (by repeat (first | (with_reducible first | exact HB.out ) )) hb);clear HB;have HB:=n0_;clear n0_;(try clear hb)))
    go_ret
    exact⟨by first | rfl ,by repeat (first | (with_reducible first | exact HB.out ) )⟩
   rw [if_neg c28] at H;have c28b0:=decide_eq_false c28;clear c28;have HC33:=Mw H;clear H
   go_upto_region 13 with (first | ((with_reducible refine bg (f:=98) rfl ?_);refine be (some 38) rfl rfl Tryz.func98 (by kernel_rfl) rfl #[.int .i64 a3,.int .i64 a4,.int .i64 3,.int .i64 3] rfl (by (try simp only [Mx,My,Mz]);first | rfl ) ?_;(with_reducible refine (dB.calls a3 a4 3 3 t313 _ A14.out).mono ?_);rintro e w34 ⟨rfl,hb⟩;refine⟨_,rfl,?_⟩;have n0_:=Mw (bo (by repeat (first | (with_reducible first | exact HB.out ) )) hb);clear HB;have HB:=n0_;clear n0_;(try clear hb)) | ((with_reducible refine bg (f:=98) rfl ?_);refine be (some 43) rfl rfl Tryz.func98 (by kernel_rfl) rfl #[.int .i64 a3,.int .i64 a4,.int .i64 3,.int .i64 (wrap64 (t311-4))] rfl (by (try simp only [Mx,My,Mz]);first | rfl ) ?_;(with_reducible refine (dB.calls a3 a4 3 (wrap64 (t311-4)) t314 _ A15.out).mono ?_);rintro e w35 ⟨rfl,hb⟩;refine⟨_,rfl,?_⟩;have n0_:=Mw (bo (by repeat (first | (with_reducible first | exact HB.out ) )) hb);clear HB;have HB:=n0_;clear n0_;(try clear hb)) | ((with_reducible refine bg (f:=98) rfl ?_);refine be (some 48) rfl rfl Tryz.func98 (by kernel_rfl) rfl #[.int .i64 a3,.int .i64 a4,.int .i64 (wrap64 (t311-4)),.int .i64 3] rfl (by (try simp only [Mx,My,Mz]);first | rfl ) ?_;(with_reducible refine (dB.calls a3 a4 (wrap64 (t311-4)) 3 t315 _ A16.out).mono ?_);rintro e w36 ⟨rfl,hb⟩;refine⟨_,rfl,?_⟩;have n0_:=Mw (bo (by repeat (first | (with_reducible first | exact HB.out ) )) hb);clear HB;have HB:=n0_;clear n0_;(try clear hb)) | ((with_reducible refine bg (f:=96) rfl ?_);refine be (some 61) rfl rfl Tryz.func96 (by kernel_rfl) rfl #[.slice A2 l2.length c2,.int .i64 a3,.int .i64 a4] rfl (by (try simp only [Mx,My,Mz]);first | rfl ) ?_;(with_reducible refine (ah.calls kj10 _ _ l2 a3 a4 t316 _ ?side1 ?side2 A27.out).mono ?_);(case side1=>repeat (first | exact (Kd.bB HR2.out HB.out) ));(case side2=>exact HC2.out);rintro e w37 ⟨rfl,hb⟩;refine⟨_,rfl,?_⟩;have n0_:=Mw (bo (by repeat (first | (with_reducible first | exact HB.out ) )) hb);clear HB;have HB:=n0_;clear n0_;(try clear hb)))
   go_cut [71] (fun v71 wc=>∃ (kq:Nat) (x71_32:Bool),v71=.bool x71_32/\Aside0 (aH.j1 kq a0 a3 a4 t311 x71_32=some r)/\Aside0 (kq<=kj10)/\Aside0 (Below w.heap.size w wc))
   case first=>
    have H:=HC33.out;clear HC33;by_cases c38:a3=6;rotate_left
    ·rw [if_neg c38] at H;have c38b0:(a3==6)=false:=beq_eq_false_iff_ne.mpr c38;have c38b1:(a3 != 6)=true:=bne_iff_ne.mpr c38
     (skip)
     have H':=Mw H;clear H
     go_wp2
     go_meet
     case rel=>exact⟨_,((a4==6)),rfl,H',⟨by have:=HJ10.out;first | omega ⟩,⟨by repeat (first | (with_reducible first | exact HB.out ) )⟩⟩
    rw [if_pos c38] at H;have c38b0:(a3==6)=true:=beq_iff_eq.mpr c38;have c38b1:(a3 != 6)=false:=bne_eq_false_iff_eq.mpr c38;clear c38
    (skip)
    have H':=Mw H;clear H
    go_wp2
    go_meet
    case rel=>exact⟨_,(true),rfl,H',⟨by have:=HJ10.out;first | omega ⟩,⟨by repeat (first | (with_reducible first | exact HB.out ) )⟩⟩
   case rest=>
    clear HC33 c19b0 c28b0;obtain⟨kq,x71_32,rfl,HA,HJ32,HB⟩:=hcut;cases kq with
    | zero=>exact absurd HA.out (by simp [aH.j1])
    | succ kj32=>
     have H:=HA.out;clear HA;simp only [aH.j1] at H;by_cases c39:x71_32=true
     ·subst c39;have H1:(some ((Int.tmod (wrap64 (a3+a4)) 2)==0))=some r:=by rw [if_pos rfl] at H;exact H
      clear H;have H:=H1;clear H1;obtain rfl:=Option.some.inj H
      go_wp2
      go_ret
      exact⟨by first | rfl ,by repeat (first | (with_reducible first | exact HB.out ) )⟩
     replace c39:=Bool.eq_false_iff.mpr c39;subst c39;have H1:(if a3<a4 then ((fJ.f kj32 a0).bind fun t317=>(if 0<=(wrap64 ((wrap64 ((wrap64 ((wrap64 (a3*3))+a4))-t311))+11)) then (some ((Go.bits .and .i64 (eZ .i64 t317 (wrap64 ((wrap64 ((wrap64 ((wrap64 (a3*3))+a4))-t311))+11))) 1)==1)) else (none))) else ((fJ.f kj32 a0).bind fun t318=>(if 0<=(wrap64 ((wrap64 ((wrap64 ((wrap64 (a4*3))+a3))-t311))+11)) then (some ((Go.bits .and .i64 (eZ .i64 t318 (wrap64 ((wrap64 ((wrap64 ((wrap64 (a4*3))+a3))-t311))+11))) 1)==1)) else (none))))=some r:=by rw [if_neg (show ¬ (false=true) by decide)] at H;exact H
     clear H;have H:=H1;clear H1;by_cases c40:a3<a4
     ·rw [if_pos c40] at H;have c40b0:=decide_eq_true c40;clear c40;obtain⟨t317,A41,H⟩:=dE H;obtain⟨ji42,hji42⟩:∃ j_:Int,(wrap64 ((wrap64 ((wrap64 ((wrap64 (a3*3))+a4))-t311))+11))=j_:=⟨_,rfl⟩;replace H:(if 0<=(ji42) then (some ((Go.bits .and .i64 (eZ .i64 t317 (ji42)) 1)==1)) else (none))=some r:=by first | (rw [hji42] at H;exact H)
      have hji42w:(IntKind.i64.wrap ((wrap64 ((wrap64 ((wrap64 (a3*3))+a4))-t311))+11))=ji42:=(gK _).trans hji42;obtain⟨c43,H⟩:=bE H;have c43b0:=eq_true c43;have c43b1:=decide_eq_true c43;clear c43;obtain⟨ji44,hji44⟩:∃ j_:Int,(eZ .i64 t317 (ji42))=j_:=⟨_,rfl⟩;replace H:(some ((Go.bits .and .i64 (ji44) 1)==1))=some r:=by first | (rw [hji44] at H;exact H)
      have hji44_:(t317/2 ^ min (ji42).toNat 64)=ji44:=hji44;have hji44z:(ji42)<=64->(t317/2 ^ (ji42).toNat)=ji44:=qd hji44;obtain rfl:=Option.some.inj H
      go_wp2_with (first | ((with_reducible refine bg (f:=99) rfl ?_);refine be (some 81) rfl rfl Tryz.func99 (by kernel_rfl) rfl #[.int .i64 a0] rfl (by (try simp only [Mx,My,Mz]);first | rfl ) ?_;(with_reducible refine (fJ.calls kj32 a0 t317 _ A41.out).mono ?_);rintro e w' ⟨rfl,⟨nd,rfl⟩⟩;refine⟨_,rfl,?_⟩))
      go_ret
      exact⟨by first | rfl ,by repeat (first | (with_reducible first | exact HB.out | apply au ) )⟩
     rw [if_neg c40] at H;have c40b0:=decide_eq_false c40;clear c40;obtain⟨t318,A45,H⟩:=dE H;obtain⟨ji46,hji46⟩:∃ j_:Int,(wrap64 ((wrap64 ((wrap64 ((wrap64 (a4*3))+a3))-t311))+11))=j_:=⟨_,rfl⟩;replace H:(if 0<=(ji46) then (some ((Go.bits .and .i64 (eZ .i64 t318 (ji46)) 1)==1)) else (none))=some r:=by first | (rw [hji46] at H;exact H)
     have hji46w:(IntKind.i64.wrap ((wrap64 ((wrap64 ((wrap64 (a4*3))+a3))-t311))+11))=ji46:=(gK _).trans hji46;obtain⟨c47,H⟩:=bE H;have c47b0:=eq_true c47;have c47b1:=decide_eq_true c47;clear c47;obtain⟨ji48,hji48⟩:∃ j_:Int,(eZ .i64 t318 (ji46))=j_:=⟨_,rfl⟩;replace H:(some ((Go.bits .and .i64 (ji48) 1)==1))=some r:=by first | (rw [hji48] at H;exact H)
     have hji48_:(t318/2 ^ min (ji46).toNat 64)=ji48:=hji48;have hji48z:(ji46)<=64->(t318/2 ^ (ji46).toNat)=ji48:=qd hji48;obtain rfl:=Option.some.inj H
     go_wp2_with (first | ((with_reducible refine bg (f:=99) rfl ?_);refine be (some 93) rfl rfl Tryz.func99 (by kernel_rfl) rfl #[.int .i64 a0] rfl (by (try simp only [Mx,My,Mz]);first | rfl ) ?_;(with_reducible refine (fJ.calls kj32 a0 t318 _ A45.out).mono ?_);rintro e w' ⟨rfl,⟨nd,rfl⟩⟩;refine⟨_,rfl,?_⟩))
     go_ret
     exact⟨by first | rfl ,by repeat (first | (with_reducible first | exact HB.out | apply au ) )⟩
end Go.Proofs.YtgccjgpdjkhpdaaGreat.F
