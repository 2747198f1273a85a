import Derived.Test.YtgccjgpdjkhpdaaGreatVErrors2
open Go.Proofs.YtgccjgpdjkhpdaaGreatW.PrintWords.Aside0 renaming mk→Mw
open Int renaming tdiv→Mx
open List renaming map_toArray→My,map_cons→Mz,map_nil→MA,replicate→MC
open Nat renaming le_refl→MB,mul_one→MD,add_zero→ME,mul_le_mul_right→MF
/-! Own texts of this claim, part 7. -/
namespace Go.Proofs.YtgccjgpdjkhpdaaGreat.F
open Go.RowKit Go.Proofs.YtgccjgpdjkhpdaaGreatW.PrintWords Go.Proofs.YtgccjgpdjkhpdaaGreatW.PrintLast Go.Proofs.YtgccjgpdjkhpdaaGreatW.PrintMore
attribute [local go_sem] fB fC fD fE fF fG fH fI
set_option linter.unusedVariables false
set_option linter.unusedSimpArgs false
def sh.f :Option (List Int):=some (([31892,34236,39577,42195,48118,51042,55367,58893,63784,68472,70749,76311,79154,84390,87683,92361,96236,102084,102881,110507,110734,117786,119615,126325,127568,133589,136944,141498,145311,150283,152622,158308,161089,167017]:List Int))
set_option maxHeartbeats 8000000 in
set_option maxRecDepth 100000 in
theorem sh.calls  (r:List Int)(w:World)(h:sh.f =some r) :
  Calls Tryz.prog 127 #[] w fun e w'=>∃ v0_:Value,e=.returned (v0_)/\Kd.R (Kd.int .i64) 3 w' w.heap.size (fun _=>True) v0_ r/\Below w.heap.size w w':=by
 have HB:=Mw (Below.refl w.heap.size w);have H:(some (([31892,34236,39577,42195,48118,51042,55367,58893,63784,68472,70749,76311,79154,84390,87683,92361,96236,102084,102881,110507,110734,117786,119615,126325,127568,133589,136944,141498,145311,150283,152622,158308,161089,167017]:List Int)))=some r:=h;clear h;obtain⟨y140,hy140⟩:∃ y_:List Int,y_=(([31892,34236,39577,42195,48118,51042,55367,58893,63784,68472,70749,76311,79154,84390,87683,92361,96236,102084,102881,110507,110734,117786,119615,126325,127568,133589,136944,141498,145311,150283,152622,158308,161089,167017]:List Int)):=⟨_,rfl⟩;replace H:(some y140)=some r:=by first | (rw [hy140];with_reducible exact H)
 have Ny140:=Mw hy140;clear hy140;obtain rfl:=Option.some.inj H
 go_enter Tryz.func127,Tryz.ntmps127
 go_wp2_with (first | ((with_reducible refine de (N:=1) rfl ?_);refine Kd.vw (Kd.int .i64) _ 3 ?hg (N:=1) ?hd (xs:=([31892,34236,39577,42195,48118,51042,55367,58893,63784,68472,70749,76311,79154,84390,87683,92361,96236,102084,102881,110507,110734,117786,119615,126325,127568,133589,136944,141498,145311,150283,152622,158308,161089,167017]:List Int)) (inner:=[.int .i64 31892,.int .i64 34236,.int .i64 39577,.int .i64 42195,.int .i64 48118,.int .i64 51042,.int .i64 55367,.int .i64 58893,.int .i64 63784,.int .i64 68472,.int .i64 70749,.int .i64 76311,.int .i64 79154,.int .i64 84390,.int .i64 87683,.int .i64 92361,.int .i64 96236,.int .i64 102084,.int .i64 102881,.int .i64 110507,.int .i64 110734,.int .i64 117786,.int .i64 119615,.int .i64 126325,.int .i64 127568,.int .i64 133589,.int .i64 136944,.int .i64 141498,.int .i64 145311,.int .i64 150283,.int .i64 152622,.int .i64 158308,.int .i64 161089,.int .i64 167017]) (ok:=fun _=>True) (okp:=fun _=>True) ?hr ?hp (fun _ hk=>hk) trivial (Below.refl _ _) (MB _) (by simp) ?_;(case hd=>rfl);(case hg=>rfl);(case hr=>first | (go_simp;done) );(case hp=>exact (ar.one (show Kd.M (Kd.int .i64) _ _ _ 31892 [.int .i64 31892] from rfl) (ar.one (show Kd.M (Kd.int .i64) _ _ _ 34236 [.int .i64 34236] from rfl) (ar.one (show Kd.M (Kd.int .i64) _ _ _ 39577 [.int .i64 39577] from rfl) (ar.one (show Kd.M (Kd.int .i64) _ _ _ 42195 [.int .i64 42195] from rfl) (ar.one (show Kd.M (Kd.int .i64) _ _ _ 48118 [.int .i64 48118] from rfl) (ar.one (show Kd.M (Kd.int .i64) _ _ _ 51042 [.int .i64 51042] from rfl) (ar.one (show Kd.M (Kd.int .i64) _ _ _ 55367 [.int .i64 55367] from rfl) (ar.one (show Kd.M (Kd.int .i64) _ _ _ 58893 [.int .i64 58893] from rfl) (ar.one (show Kd.M (Kd.int .i64) _ _ _ 63784 [.int .i64 63784] from rfl) (ar.one (show Kd.M (Kd.int .i64) _ _ _ 68472 [.int .i64 68472] from rfl) (ar.one (show Kd.M (Kd.int .i64) _ _ _ 70749 [.int .i64 70749] from rfl) (ar.one (show Kd.M (Kd.int .i64) _ _ _ 76311 [.int .i64 76311] from rfl) (ar.one (show Kd.M (Kd.int .i64) _ _ _ 79154 [.int .i64 79154] from rfl) (ar.one (show Kd.M (Kd.int .i64) _ _ _ 84390 [.int .i64 84390] from rfl) (ar.one (show Kd.M (Kd.int .i64) _ _ _ 87683 [.int .i64 87683] from rfl) (ar.one (show Kd.M (Kd.int .i64) _ _ _ 92361 [.int .i64 92361] from rfl) (ar.one (show Kd.M (Kd.int .i64) _ _ _ 96236 [.int .i64 96236] from rfl) (ar.one (show Kd.M (Kd.int .i64) _ _ _ 102084 [.int .i64 102084] from rfl) (ar.one (show Kd.M (Kd.int .i64) _ _ _ 102881 [.int .i64 102881] from rfl) (ar.one (show Kd.M (Kd.int .i64) _ _ _ 110507 [.int .i64 110507] from rfl) (ar.one (show Kd.M (Kd.int .i64) _ _ _ 110734 [.int .i64 110734] from rfl) (ar.one (show Kd.M (Kd.int .i64) _ _ _ 117786 [.int .i64 117786] from rfl) (ar.one (show Kd.M (Kd.int .i64) _ _ _ 119615 [.int .i64 119615] from rfl) (ar.one (show Kd.M (Kd.int .i64) _ _ _ 126325 [.int .i64 126325] from rfl) (ar.one (show Kd.M (Kd.int .i64) _ _ _ 127568 [.int .i64 127568] from rfl) (ar.one (show Kd.M (Kd.int .i64) _ _ _ 133589 [.int .i64 133589] from rfl) (ar.one (show Kd.M (Kd.int .i64) _ _ _ 136944 [.int .i64 136944] from rfl) (ar.one (show Kd.M (Kd.int .i64) _ _ _ 141498 [.int .i64 141498] from rfl) (ar.one (show Kd.M (Kd.int .i64) _ _ _ 145311 [.int .i64 145311] from rfl) (ar.one (show Kd.M (Kd.int .i64) _ _ _ 150283 [.int .i64 150283] from rfl) (ar.one (show Kd.M (Kd.int .i64) _ _ _ 152622 [.int .i64 152622] from rfl) (ar.one (show Kd.M (Kd.int .i64) _ _ _ 158308 [.int .i64 158308] from rfl) (ar.one (show Kd.M (Kd.int .i64) _ _ _ 161089 [.int .i64 161089] from rfl) (ar.one (show Kd.M (Kd.int .i64) _ _ _ 167017 [.int .i64 167017] from rfl) (ar.none _ _))))))))))))))))))))))))))))))))))));intro v141 w1 ho2 hb hg_ hnew_;clear hg_ hnew_;(first | rw [<- Ny140.out] at ho2 );have n0_:=Mw (Kd.fz ho2 (eL (by repeat (first | (with_reducible first | exact HB.out ) ))));have n1_:=Mw (bo (by repeat (first | (with_reducible first | exact HB.out ) )) hb);clear HB;have HO142:=n0_;have HB:=n1_;clear n0_ n1_;clear hb ho2))
 go_ret
 exact⟨_,by first | rfl ,by (with_reducible repeat (first | apply Kd.cG));exact HO142.out,by repeat (first | (with_reducible first | exact HB.out ) )⟩
def dI.f (a0:Int):Option (Int):=some (wrap64 (17+(wrap64 (4*a0))))
set_option maxHeartbeats 8000000 in
set_option maxRecDepth 100000 in
theorem dI.calls (a0:Int)(r:Int)(w:World)(h:dI.f a0=some r) :
  Calls Tryz.prog 46 #[.int .i64 a0] w fun e w'=>e=.returned (.int .i64 r)/\aj w w':=by
 have H:(some (wrap64 (17+(wrap64 (4*a0)))))=some r:=h;clear h;obtain rfl:=Option.some.inj H
 go_enter Tryz.func46,Tryz.ntmps46
 go_wp2
 go_ret
 exact⟨by first | rfl | (simp;done) | (simp [*];done),by repeat (first | exact aj.refl _ | apply aj.step)⟩
def dB.f (a0:Int)(a1:Int)(a2:Int)(a3:Int):Option (Int):=some (mx (mx (wrap64 (a0-a2)) (wrap64 (a2-a0))) (mx (wrap64 (a1-a3)) (wrap64 (a3-a1))))
set_option maxHeartbeats 8000000 in
set_option maxRecDepth 100000 in
theorem dB.calls (a0:Int)(a1:Int)(a2:Int)(a3:Int)(r:Int)(w:World)(h:dB.f a0 a1 a2 a3=some r) :
  Calls Tryz.prog 98 #[.int .i64 a0,.int .i64 a1,.int .i64 a2,.int .i64 a3] w fun e w'=>e=.returned (.int .i64 r)/\Below w.heap.size w w':=by
 have HB:=Mw (Below.refl w.heap.size w);have H:(some (mx (mx (wrap64 (a0-a2)) (wrap64 (a2-a0))) (mx (wrap64 (a1-a3)) (wrap64 (a3-a1)))))=some r:=h;clear h;obtain⟨ji5,hji5⟩:∃ j_:Int,(mx (wrap64 (a0-a2)) (wrap64 (a2-a0)))=j_:=⟨_,rfl⟩;replace H:(some (mx (ji5) (mx (wrap64 (a1-a3)) (wrap64 (a3-a1)))))=some r:=by first | (rw [hji5] at H;exact H) | (simp only [hji5] at H ⊢;exact H)
 have hji5_:(if (wrap64 (a0-a2))<(wrap64 (a2-a0)) then (wrap64 (a2-a0)) else (wrap64 (a0-a2)))=ji5:=hji5;obtain⟨ji6,hji6⟩:∃ j_:Int,(mx (wrap64 (a1-a3)) (wrap64 (a3-a1)))=j_:=⟨_,rfl⟩;replace H:(some (mx (ji5) (ji6)))=some r:=by first | (rw [hji6] at H;exact H) | (simp only [hji6] at H ⊢;exact H)
 have hji6_:(if (wrap64 (a1-a3))<(wrap64 (a3-a1)) then (wrap64 (a3-a1)) else (wrap64 (a1-a3)))=ji6:=hji6;obtain⟨ji7,hji7⟩:∃ j_:Int,(mx (ji5) (ji6))=j_:=⟨_,rfl⟩;replace H:(some ji7)=some r:=by first | (rw [hji7] at H;exact H) | (simp only [hji7] at H ⊢;exact H)
 have hji7_:(if (ji5)<(ji6) then (ji6) else (ji5))=ji7:=hji7;obtain rfl:=Option.some.inj H
 go_enter Tryz.func98,Tryz.ntmps98
 go_wp2
 go_ret
 exact⟨by first | rfl | (simp [gT,gU]<;>rfl) | (simp only [<- hji5,<- hji6,<- hji7];first | rfl | (simp [gT,gU]<;>rfl)) | (simp [*,gT,gU]<;>rfl),by repeat (first | (with_reducible first | exact HB.out | apply ai | apply au | apply bC) | exact HB.out)⟩
end Go.Proofs.YtgccjgpdjkhpdaaGreat.F
namespace Go.Proofs.YtgccjgpdjkhpdaaGreat.F
open Go.RowKit Go.Proofs.YtgccjgpdjkhpdaaGreatW.PrintWords Go.Proofs.YtgccjgpdjkhpdaaGreatW.PrintLast Go.Proofs.YtgccjgpdjkhpdaaGreatW.PrintMore
attribute [local go_sem] fB fC fD fE fF fG fH fI
set_option linter.unusedVariables false
set_option linter.unusedSimpArgs false
mutual
def ah.l0:Nat->List Int->Int->Int->Int->List Int->Int->Int->Option (Int)
 | 0,_,_,_,_,_,_,_=>none
 | k+1,x0,x1,x2,x7,x16,x17,x18=>if x18<x17 then (if 0<=x18 then (if x18<(x16.length:Int) then (if x1<(wrap64 ((rd x16 x18)-2)) then (ah.j1 k x0 x1 x2 x7 x18 (rd x16 x18) x16 x17 x18 true) else (ah.j1 k x0 x1 x2 x7 x18 (rd x16 x18) x16 x17 x18 (decide (x1>(wrap64 ((rd x16 x18)+2)))))) else (none)) else (none)) else (some (-1))
def ah.j1:Nat->List Int->Int->Int->Int->Int->Int->List Int->Int->Int->Bool->Option (Int)
 | 0,_,_,_,_,_,_,_,_,_,_=>none
 | k+1,x0,x1,x2,x7,x8,x9,x16,x17,x18,x32=>if x32=true then (ah.l0 k x0 x1 x2 x7 x16 x17 (wrap64 (x18+1))) else (ah.l1 k x0 x1 x2 x7 x8 x9 x16 x17 x18 x0 (x0.length:Int) 0)
def ah.l1:Nat->List Int->Int->Int->Int->Int->Int->List Int->Int->Int->List Int->Int->Int->Option (Int)
 | 0,_,_,_,_,_,_,_,_,_,_,_,_=>none
 | k+1,x0,x1,x2,x7,x8,x9,x16,x17,x18,x33,x34,x35=>if x35<x34 then (if 0<=x35 then (if x35<(x33.length:Int) then (if x8=0 then (if x35=0 then (ah.j3 k x0 x1 x2 x7 x8 x9 (rd x33 x35) x16 x17 x18 x33 x34 x35 true) else (if x35=x7 then (ah.j3 k x0 x1 x2 x7 x8 x9 (rd x33 x35) x16 x17 x18 x33 x34 x35 true) else (if x8=x7 then (ah.j3 k x0 x1 x2 x7 x8 x9 (rd x33 x35) x16 x17 x18 x33 x34 x35 (x35==0)) else (ah.j3 k x0 x1 x2 x7 x8 x9 (rd x33 x35) x16 x17 x18 x33 x34 x35 false)))) else (if x8=x7 then (ah.j3 k x0 x1 x2 x7 x8 x9 (rd x33 x35) x16 x17 x18 x33 x34 x35 (x35==0)) else (ah.j3 k x0 x1 x2 x7 x8 x9 (rd x33 x35) x16 x17 x18 x33 x34 x35 false))) else (none)) else (none)) else (ah.l0 k x0 x1 x2 x7 x16 x17 (wrap64 (x18+1)))
def ah.j3:Nat->List Int->Int->Int->Int->Int->Int->Int->List Int->Int->Int->List Int->Int->Int->Bool->Option (Int)
 | 0,_,_,_,_,_,_,_,_,_,_,_,_,_,_=>none
 | k+1,x0,x1,x2,x7,x8,x9,x11,x16,x17,x18,x33,x34,x35,x59=>if x59=true then (ah.l1 k x0 x1 x2 x7 x8 x9 x16 x17 x18 x33 x34 (wrap64 (x35+1))) else ((dB.f x1 x2 x9 x11).bind fun t303=>(if t303<=2 then (some t303) else (ah.l1 k x0 x1 x2 x7 x8 x9 x16 x17 x18 x33 x34 (wrap64 (x35+1)))))
end
def ah.f (k:Nat)(l0:List Int)(a1:Int)(a2:Int):Option (Int):=ah.l0 k l0 a1 a2 (wrap64 ((l0.length:Int)-1)) l0 (l0.length:Int) 0
theorem ah.mono_l:∀ k,(∀ y0 y1 y2 y3 y4 y5 y6,ae (ah.l0 k y0 y1 y2 y3 y4 y5 y6) (ah.l0 (k+1) y0 y1 y2 y3 y4 y5 y6))/\(∀ y0 y1 y2 y3 y4 y5 y6 y7 y8 y9,ae (ah.j1 k y0 y1 y2 y3 y4 y5 y6 y7 y8 y9) (ah.j1 (k+1) y0 y1 y2 y3 y4 y5 y6 y7 y8 y9))/\(∀ y0 y1 y2 y3 y4 y5 y6 y7 y8 y9 y10 y11,ae (ah.l1 k y0 y1 y2 y3 y4 y5 y6 y7 y8 y9 y10 y11) (ah.l1 (k+1) y0 y1 y2 y3 y4 y5 y6 y7 y8 y9 y10 y11))/\(∀ y0 y1 y2 y3 y4 y5 y6 y7 y8 y9 y10 y11 y12 y13,ae (ah.j3 k y0 y1 y2 y3 y4 y5 y6 y7 y8 y9 y10 y11 y12 y13) (ah.j3 (k+1) y0 y1 y2 y3 y4 y5 y6 y7 y8 y9 y10 y11 y12 y13))
 | 0=>⟨fun _ _ _ _ _ _ _ r h=>by simp [ah.l0] at h,fun _ _ _ _ _ _ _ _ _ _ r h=>by simp [ah.j1] at h,fun _ _ _ _ _ _ _ _ _ _ _ _ r h=>by simp [ah.l1] at h,fun _ _ _ _ _ _ _ _ _ _ _ _ _ _ r h=>by simp [ah.j3] at h⟩
 | k+1=>by
  obtain⟨ih0,ih1,ih2,ih3⟩:=ah.mono_l k;refine⟨?_,?_,?_,?_⟩
  ·intro y0 y1 y2 y3 y4 y5 y6;unfold ah.l0
   repeat' first
   | (with_reducible exact ih1 _ _ _ _ _ _ _ _ _ _)
   | (with_reducible exact ae.refl _)
   | (with_reducible refine ae.ite ?_ ?_)
  ·intro y0 y1 y2 y3 y4 y5 y6 y7 y8 y9;unfold ah.j1
   repeat' first
   | (with_reducible exact ih0 _ _ _ _ _ _ _)
   | (with_reducible exact ih2 _ _ _ _ _ _ _ _ _ _ _ _)
   | (with_reducible refine ae.ite ?_ ?_)
  ·intro y0 y1 y2 y3 y4 y5 y6 y7 y8 y9 y10 y11;unfold ah.l1
   repeat' first
   | (with_reducible exact ih0 _ _ _ _ _ _ _)
   | (with_reducible exact ih3 _ _ _ _ _ _ _ _ _ _ _ _ _ _)
   | (with_reducible exact ae.refl _)
   | (with_reducible refine ae.ite ?_ ?_)
  intro y0 y1 y2 y3 y4 y5 y6 y7 y8 y9 y10 y11 y12 y13;unfold ah.j3
  repeat' first
  | (with_reducible exact ih2 _ _ _ _ _ _ _ _ _ _ _ _)
  | (with_reducible exact ae.refl _)
  | (with_reducible refine ae.ite ?_ ?_)
  | (with_reducible refine ae.bind ?_ (fun _=>?_))
theorem ah.mono:∀ a0 a1 a2 k,ae (ah.f k a0 a1 a2) (ah.f (k+1) a0 a1 a2):=by
 intro a0 a1 a2 k;obtain⟨ih0,ih1,ih2,ih3⟩:=ah.mono_l k;unfold ah.f
 repeat' first
   | (with_reducible exact ih0 _ _ _ _ _ _ _)
set_option maxHeartbeats 8000000 in
set_option maxRecDepth 100000 in
theorem ah.calls (k:Nat)(A0:Option Addr)(c0:Nat)(l0:List Int)(a1:Int)(a2:Int)(r:Int)(w:World)(hr0:Kd.C (Kd.int .i64) w A0 l0.length l0)(hc0:l0.length<=c0)(h:ah.f k l0 a1 a2=some r) :
  Calls Tryz.prog 96 #[.slice A0 l0.length c0,.int .i64 a1,.int .i64 a2] w fun e w'=>e=.returned (.int .i64 r)/\Below w.heap.size w w':=by
 have HR0:=Mw hr0;have HC0:=Mw hc0;clear hr0 hc0;have HB:=Mw (Below.refl w.heap.size w);have H:(ah.l0 k l0 a1 a2 (wrap64 ((l0.length:Int)-1)) l0 (l0.length:Int) 0)=some r:=h;clear h;have H':=Mw H;clear H
 go_enter Tryz.func96,Tryz.ntmps96
 go_wp2
 go_loopg [18] k (fun kq v18 w'=>∃ (x18_1:Int),v18=.int .i64 x18_1/\Aside0 (ah.l0 kq l0 a1 a2 (wrap64 ((l0.length:Int)-1)) l0 (l0.length:Int) x18_1=some r)/\Aside0 (kq<=k)/\Aside0 (Below w.heap.size w w'))
 case atStart=>exact⟨(0),rfl,H',⟨MB _⟩,⟨by repeat (first | (with_reducible first | exact HB.out ) )⟩⟩
 case round=>
  clear H';obtain⟨x18_1,rfl,HA,HK1,HB⟩:=hrel;cases gk with
  | zero=>exact absurd HA.out (by simp [ah.l0])
  | succ k1=>
   have H:=HA.out;clear HA;simp only [ah.l0] at H;by_cases c4:x18_1<(l0.length:Int);rotate_left
   ·rw [if_neg c4] at H;have c4b0:=decide_eq_false c4;clear c4;obtain rfl:=Option.some.inj H
    go_wp2
    go_ret
    exact⟨by first | rfl ,by repeat (first | (with_reducible first | exact HB.out ) )⟩
   rw [if_pos c4] at H;have c4b0:=decide_eq_true c4;clear c4;obtain⟨c5,H⟩:=bE H;have c5b0:=decide_eq_true c5;clear c5;obtain⟨c6,H⟩:=bE H;have c6b0:=decide_eq_true c6;clear c6;have HC7:=Mw H;clear H;have p301:0<=(x18_1:Int):=of_decide_eq_true (by first | (with_reducible assumption) );have q301:x18_1<(l0.length:Int):=of_decide_eq_true (by first | (with_reducible assumption) );obtain⟨ad301,e301,hx301_0⟩:=Kd.m4 HR0.out x18_1 p301 q301;cases e301;replace hx301_0:=(HB.out.cell (World.block_lt_of_cell? w _ hx301_0)).trans hx301_0;replace p301:=eq_true p301;replace q301:=eq_true q301
   go_upto_region 5 with (fail)
   go_cut [32] (fun v32 wc=>∃ (kq:Nat) (x32_6:Bool),v32=.bool x32_6/\Aside0 (ah.j1 kq l0 a1 a2 (wrap64 ((l0.length:Int)-1)) x18_1 (rd l0 x18_1) l0 (l0.length:Int) x18_1 x32_6=some r)/\Aside0 (kq<=k1)/\Aside0 (Below w.heap.size w wc))
   case first=>
    have H:=HC7.out;clear HC7;by_cases c8:a1<(wrap64 ((rd l0 x18_1)-2))
    ·rw [if_pos c8] at H;have c8b0:=decide_eq_true c8;clear c8
     (skip)
     have H':=Mw H;clear H
     go_wp2
     go_meet
     case rel=>exact⟨_,(true),rfl,H',⟨by have:=HK1.out;first | omega ⟩,⟨by repeat (first | (with_reducible first | exact HB.out ) )⟩⟩
    rw [if_neg c8] at H;have c8b0:=decide_eq_false c8;clear c8
    (skip)
    have H':=Mw H;clear H
    go_wp2
    go_meet
    case rel=>exact⟨_,(decide (a1>(wrap64 ((rd l0 x18_1)+2)))),rfl,H',⟨by have:=HK1.out;first | omega ⟩,⟨by repeat (first | (with_reducible first | exact HB.out ) )⟩⟩
   case rest=>
    clear HC7 c4b0 c5b0 c6b0 hx301_0 p301 q301;obtain⟨kq,x32_6,rfl,HA,HJ6,HB⟩:=hcut;cases kq with
    | zero=>exact absurd HA.out (by simp [ah.j1])
    | succ kj6=>
     have H:=HA.out;clear HA;simp only [ah.j1] at H;by_cases c9:x32_6=true
     ·subst c9;have H1:(ah.l0 kj6 l0 a1 a2 (wrap64 ((l0.length:Int)-1)) l0 (l0.length:Int) (wrap64 (x18_1+1)))=some r:=by rw [if_pos rfl] at H;exact H
      clear H;have H:=H1;clear H1;have H':=Mw H;clear H
      go_wp2
      go_roundg kj6
      case measure=>have:=HK1.out;have:=HJ6.out;omega
      case rel=>exact⟨(wrap64 (x18_1+1)),rfl,H',⟨by have:=HK1.out;have:=HJ6.out;omega⟩,⟨by repeat (first | (with_reducible first | exact HB.out ) )⟩⟩
     replace c9:=Bool.eq_false_iff.mpr c9;subst c9;have H1:(ah.l1 kj6 l0 a1 a2 (wrap64 ((l0.length:Int)-1)) x18_1 (rd l0 x18_1) l0 (l0.length:Int) x18_1 l0 (l0.length:Int) 0)=some r:=by rw [if_neg (show ¬ (false=true) by decide)] at H;exact H
     clear H;have H:=H1;clear H1;have H':=Mw H;clear H
     go_wp2
     go_loopg [35] kj6 (fun kq v35 w'=>∃ (x35_3:Int),v35=.int .i64 x35_3/\Aside0 (ah.l1 kq l0 a1 a2 (wrap64 ((l0.length:Int)-1)) x18_1 (rd l0 x18_1) l0 (l0.length:Int) x18_1 l0 (l0.length:Int) x35_3=some r)/\Aside0 (kq<=kj6)/\Aside0 (Below w.heap.size w w'))
     case atStart=>exact⟨(0),rfl,H',⟨MB _⟩,⟨by repeat (first | (with_reducible first | exact HB.out ) )⟩⟩
     case round=>
      clear H';obtain⟨x35_3,rfl,HA,HK3,HB⟩:=hrel;cases gk with
      | zero=>exact absurd HA.out (by simp [ah.l1])
      | succ k3=>
       have H:=HA.out;clear HA;simp only [ah.l1] at H;by_cases c10:x35_3<(l0.length:Int);rotate_left
       ·rw [if_neg c10] at H;have c10b0:=decide_eq_false c10;clear c10;have H':=Mw H;clear H
        go_wp2
        go_roundg k3
        case measure=>have:=HK1.out;have:=HJ6.out;have:=HK3.out;omega
        case rel=>exact⟨(wrap64 (x18_1+1)),rfl,H',⟨by have:=HK1.out;have:=HJ6.out;have:=HK3.out;omega⟩,⟨by repeat (first | (with_reducible first | exact HB.out ) )⟩⟩
       rw [if_pos c10] at H;have c10b0:=decide_eq_true c10;clear c10;obtain⟨c11,H⟩:=bE H;have c11b0:=decide_eq_true c11;clear c11;obtain⟨c12,H⟩:=bE H;have c12b0:=decide_eq_true c12;clear c12;have HC13:=Mw H;clear H;have p302:0<=(x35_3:Int):=of_decide_eq_true (by first | (with_reducible assumption) );have q302:x35_3<(l0.length:Int):=of_decide_eq_true (by first | (with_reducible assumption) );obtain⟨ad302,e302,hx302_0⟩:=Kd.m4 HR0.out x35_3 p302 q302;obtain rfl:ad301=ad302:=(by injection e302);replace hx302_0:=(HB.out.cell (World.block_lt_of_cell? w _ hx302_0)).trans hx302_0;replace p302:=eq_true p302;replace q302:=eq_true q302
       go_upto_region 9 with (fail)
       go_cut [59] (fun v59 wc=>∃ (kq:Nat) (x59_12:Bool),v59=.bool x59_12/\Aside0 (ah.j3 kq l0 a1 a2 (wrap64 ((l0.length:Int)-1)) x18_1 (rd l0 x18_1) (rd l0 x35_3) l0 (l0.length:Int) x18_1 l0 (l0.length:Int) x35_3 x59_12=some r)/\Aside0 (kq<=k3)/\Aside0 (Below w.heap.size w wc))
       case first=>
        have H:=HC13.out;clear HC13;by_cases c14:x18_1=0;rotate_left
        ·rw [if_neg c14] at H;have c14b0:(x18_1==0)=false:=beq_eq_false_iff_ne.mpr c14;have c14b1:(x18_1 != 0)=true:=bne_iff_ne.mpr c14
         (skip)
         by_cases c18:x18_1=(wrap64 ((l0.length:Int)-1));rotate_left
         ·rw [if_neg c18] at H;have c18b0:(x18_1==(wrap64 ((l0.length:Int)-1)))=false:=beq_eq_false_iff_ne.mpr c18;have c18b1:(x18_1 != (wrap64 ((l0.length:Int)-1)))=true:=bne_iff_ne.mpr c18;have H':=Mw H;clear H
          go_wp2
          go_meet
          case rel=>exact⟨_,(false),rfl,H',⟨by have:=HK1.out;have:=HJ6.out;have:=HK3.out;first | omega ⟩,⟨by repeat (first | (with_reducible first | exact HB.out ) )⟩⟩
         rw [if_pos c18] at H;have c18b0:(x18_1==(wrap64 ((l0.length:Int)-1)))=true:=beq_iff_eq.mpr c18;have c18b1:(x18_1 != (wrap64 ((l0.length:Int)-1)))=false:=bne_eq_false_iff_eq.mpr c18;clear c18;have H':=Mw H;clear H
         go_wp2
         go_meet
         case rel=>exact⟨_,((x35_3==0)),rfl,H',⟨by have:=HK1.out;have:=HJ6.out;have:=HK3.out;first | omega ⟩,⟨by repeat (first | (with_reducible first | exact HB.out ) )⟩⟩
        rw [if_pos c14] at H;have c14b0:(x18_1==0)=true:=beq_iff_eq.mpr c14;have c14b1:(x18_1 != 0)=false:=bne_eq_false_iff_eq.mpr c14;clear c14
        (skip)
        by_cases c15:x35_3=0
        ·rw [if_pos c15] at H;have c15b0:(x35_3==0)=true:=beq_iff_eq.mpr c15;have c15b1:(x35_3 != 0)=false:=bne_eq_false_iff_eq.mpr c15;clear c15;have H':=Mw H;clear H
         go_wp2
         go_meet
         case rel=>exact⟨_,(true),rfl,H',⟨by have:=HK1.out;have:=HJ6.out;have:=HK3.out;first | omega ⟩,⟨by repeat (first | (with_reducible first | exact HB.out ) )⟩⟩
        rw [if_neg c15] at H;have c15b0:(x35_3==0)=false:=beq_eq_false_iff_ne.mpr c15;have c15b1:(x35_3 != 0)=true:=bne_iff_ne.mpr c15;by_cases c16:x35_3=(wrap64 ((l0.length:Int)-1))
        ·rw [if_pos c16] at H;have c16b0:(x35_3==(wrap64 ((l0.length:Int)-1)))=true:=beq_iff_eq.mpr c16;have c16b1:(x35_3 != (wrap64 ((l0.length:Int)-1)))=false:=bne_eq_false_iff_eq.mpr c16;clear c16;have H':=Mw H;clear H
         go_wp2
         go_meet
         case rel=>exact⟨_,(true),rfl,H',⟨by have:=HK1.out;have:=HJ6.out;have:=HK3.out;first | omega ⟩,⟨by repeat (first | (with_reducible first | exact HB.out ) )⟩⟩
        rw [if_neg c16] at H;have c16b0:(x35_3==(wrap64 ((l0.length:Int)-1)))=false:=beq_eq_false_iff_ne.mpr c16;have c16b1:(x35_3 != (wrap64 ((l0.length:Int)-1)))=true:=bne_iff_ne.mpr c16;by_cases c17:x18_1=(wrap64 ((l0.length:Int)-1));rotate_left
        ·rw [if_neg c17] at H;have c17b0:(x18_1==(wrap64 ((l0.length:Int)-1)))=false:=beq_eq_false_iff_ne.mpr c17;have c17b1:(x18_1 != (wrap64 ((l0.length:Int)-1)))=true:=bne_iff_ne.mpr c17;have H':=Mw H;clear H
         go_wp2
         go_meet
         case rel=>exact⟨_,(false),rfl,H',⟨by have:=HK1.out;have:=HJ6.out;have:=HK3.out;first | omega ⟩,⟨by repeat (first | (with_reducible first | exact HB.out ) )⟩⟩
        rw [if_pos c17] at H;have c17b0:(x18_1==(wrap64 ((l0.length:Int)-1)))=true:=beq_iff_eq.mpr c17;have c17b1:(x18_1 != (wrap64 ((l0.length:Int)-1)))=false:=bne_eq_false_iff_eq.mpr c17;clear c17;have H':=Mw H;clear H
        go_wp2
        go_meet
        case rel=>exact⟨_,((x35_3==0)),(by first | (simp [*];done)),H',⟨by have:=HK1.out;have:=HJ6.out;have:=HK3.out;first | omega ⟩,⟨by repeat (first | (with_reducible first | exact HB.out ) )⟩⟩
       case rest=>
        clear HC13 c10b0 c11b0 c12b0 hx302_0 p302 q302;obtain⟨kq,x59_12,rfl,HA,HJ12,HB⟩:=hcut;cases kq with
        | zero=>exact absurd HA.out (by simp [ah.j3])
        | succ kj12=>
         have H:=HA.out;clear HA;simp only [ah.j3] at H;by_cases c19:x59_12=true
         ·subst c19;have H1:(ah.l1 kj12 l0 a1 a2 (wrap64 ((l0.length:Int)-1)) x18_1 (rd l0 x18_1) l0 (l0.length:Int) x18_1 l0 (l0.length:Int) (wrap64 (x35_3+1)))=some r:=by rw [if_pos rfl] at H;exact H
          clear H;have H:=H1;clear H1;have H':=Mw H;clear H
          go_wp2
          go_roundg kj12
          case measure=>have:=HK1.out;have:=HJ6.out;have:=HK3.out;have:=HJ12.out;omega
          case rel=>exact⟨(wrap64 (x35_3+1)),rfl,H',⟨by have:=HK1.out;have:=HJ6.out;have:=HK3.out;have:=HJ12.out;omega⟩,⟨by repeat (first | (with_reducible first | exact HB.out ) )⟩⟩
         replace c19:=Bool.eq_false_iff.mpr c19;subst c19;have H1:((dB.f a1 a2 (rd l0 x18_1) (rd l0 x35_3)).bind fun t303=>(if t303<=2 then (some t303) else (ah.l1 kj12 l0 a1 a2 (wrap64 ((l0.length:Int)-1)) x18_1 (rd l0 x18_1) l0 (l0.length:Int) x18_1 l0 (l0.length:Int) (wrap64 (x35_3+1)))))=some r:=by rw [if_neg (show ¬ (false=true) by decide)] at H;exact H
         clear H;have H:=H1;clear H1;obtain⟨t303,A20,H⟩:=dE H;by_cases c21:t303<=2
         ·rw [if_pos c21] at H;have c21b0:=decide_eq_true c21;clear c21;obtain rfl:=Option.some.inj H
          go_wp2_with (first | ((with_reducible refine bg (f:=98) rfl ?_);refine be (some 64) rfl rfl Tryz.func98 (by kernel_rfl) rfl #[.int .i64 a1,.int .i64 a2,.int .i64 (rd l0 x18_1),.int .i64 (rd l0 x35_3)] rfl (by (try simp only [My,Mz,MA]);first | rfl ) ?_;(with_reducible refine (dB.calls a1 a2 (rd l0 x18_1) (rd l0 x35_3) t303 _ A20.out).mono ?_);rintro e w22 ⟨rfl,hb⟩;refine⟨_,rfl,?_⟩;have n0_:=Mw (bo (by repeat (first | (with_reducible first | exact HB.out ) )) hb);clear HB;have HB:=n0_;clear n0_;(try clear hb)))
          go_ret
          exact⟨by first | rfl ,by repeat (first | (with_reducible first | exact HB.out ) )⟩
         rw [if_neg c21] at H;have c21b0:=decide_eq_false c21;clear c21;have H':=Mw H;clear H
         go_wp2_with (first | ((with_reducible refine bg (f:=98) rfl ?_);refine be (some 64) rfl rfl Tryz.func98 (by kernel_rfl) rfl #[.int .i64 a1,.int .i64 a2,.int .i64 (rd l0 x18_1),.int .i64 (rd l0 x35_3)] rfl (by (try simp only [My,Mz,MA]);first | rfl ) ?_;(with_reducible refine (dB.calls a1 a2 (rd l0 x18_1) (rd l0 x35_3) t303 _ A20.out).mono ?_);rintro e w23 ⟨rfl,hb⟩;refine⟨_,rfl,?_⟩;have n0_:=Mw (bo (by repeat (first | (with_reducible first | exact HB.out ) )) hb);clear HB;have HB:=n0_;clear n0_;(try clear hb)))
         go_roundg kj12
         case measure=>have:=HK1.out;have:=HJ6.out;have:=HK3.out;have:=HJ12.out;omega
         case rel=>exact⟨(wrap64 (x35_3+1)),rfl,H',⟨by have:=HK1.out;have:=HJ6.out;have:=HK3.out;have:=HJ12.out;omega⟩,⟨by repeat (first | (with_reducible first | exact HB.out ) )⟩⟩
end Go.Proofs.YtgccjgpdjkhpdaaGreat.F
namespace Go.Proofs.YtgccjgpdjkhpdaaGreat.F
open Go.RowKit Go.Proofs.YtgccjgpdjkhpdaaGreatW.PrintWords Go.Proofs.YtgccjgpdjkhpdaaGreatW.PrintLast Go.Proofs.YtgccjgpdjkhpdaaGreatW.PrintMore
attribute [local go_sem] fB fC fD fE fF fG fH fI
set_option linter.unusedVariables false
set_option linter.unusedSimpArgs false
mutual
def az.j0:Nat->Int->List Int->Int->Int->Int->Bool->Option (Bool)
 | 0,_,_,_,_,_,_=>none
 | k+1,x0,x1,x2,x3,x9,x12=>if x12=true then (az.j2 k x0 x1 x2 x3 x9 x12) else (if x2≥(wrap64 (x9-8)) then (az.j1 k x0 x1 x2 x3 x9 (decide (x3<=8))) else (az.j1 k x0 x1 x2 x3 x9 false))
def az.j2:Nat->Int->List Int->Int->Int->Int->Bool->Option (Bool)
 | 0,_,_,_,_,_,_=>none
 | k+1,x0,x1,x2,x3,x9,x12=>if x12=true then (some true) else (if x0≥7 then (if x2<=5 then (if x3≥(wrap64 (x9-11)) then (some true) else (if x3<=5 then (if x2≥(wrap64 (x9-11)) then (some true) else ((ah.f k x1 x2 x3).bind fun t305=>(some (decide (t305≥0))))) else ((ah.f k x1 x2 x3).bind fun t306=>(some (decide (t306≥0)))))) else (if x3<=5 then (if x2≥(wrap64 (x9-11)) then (some true) else ((ah.f k x1 x2 x3).bind fun t307=>(some (decide (t307≥0))))) else ((ah.f k x1 x2 x3).bind fun t308=>(some (decide (t308≥0)))))) else ((ah.f k x1 x2 x3).bind fun t309=>(some (decide (t309≥0)))))
def az.j1:Nat->Int->List Int->Int->Int->Int->Bool->Option (Bool)
 | 0,_,_,_,_,_,_=>none
 | k+1,x0,x1,x2,x3,x9,x12=>if x12=true then (az.j2 k x0 x1 x2 x3 x9 x12) else (if x2=6 then (az.j2 k x0 x1 x2 x3 x9 (x2==6)) else (az.j2 k x0 x1 x2 x3 x9 (x3==6)))
end
def az.f (k:Nat)(a0:Int)(l1:List Int)(a2:Int)(a3:Int):Option (Bool):=(dI.f a0).bind fun t304=>(if a2<=8 then (if a3<=8 then (az.j0 k a0 l1 a2 a3 t304 true) else (az.j0 k a0 l1 a2 a3 t304 (decide (a3≥(wrap64 (t304-8)))))) else (az.j0 k a0 l1 a2 a3 t304 false))
theorem az.mono_l:∀ k,(∀ y0 y1 y2 y3 y4 y5,ae (az.j0 k y0 y1 y2 y3 y4 y5) (az.j0 (k+1) y0 y1 y2 y3 y4 y5))/\(∀ y0 y1 y2 y3 y4 y5,ae (az.j2 k y0 y1 y2 y3 y4 y5) (az.j2 (k+1) y0 y1 y2 y3 y4 y5))/\(∀ y0 y1 y2 y3 y4 y5,ae (az.j1 k y0 y1 y2 y3 y4 y5) (az.j1 (k+1) y0 y1 y2 y3 y4 y5))
 | 0=>⟨fun _ _ _ _ _ _ r h=>by simp [az.j0] at h,fun _ _ _ _ _ _ r h=>by simp [az.j2] at h,fun _ _ _ _ _ _ r h=>by simp [az.j1] at h⟩
 | k+1=>by
  obtain⟨ih0,ih1,ih2⟩:=az.mono_l k;refine⟨?_,?_,?_⟩
  ·intro y0 y1 y2 y3 y4 y5;unfold az.j0
   repeat' first
   | (with_reducible exact ih1 _ _ _ _ _ _)
   | (with_reducible exact ih2 _ _ _ _ _ _)
   | (with_reducible refine ae.ite ?_ ?_)
  rotate_left
  ·intro y0 y1 y2 y3 y4 y5;unfold az.j1
   repeat' first
   | (with_reducible exact ih1 _ _ _ _ _ _)
   | (with_reducible refine ae.ite ?_ ?_)
  intro y0 y1 y2 y3 y4 y5;unfold az.j2
  repeat' first
  | (with_reducible exact ah.mono _ _ _ _)
  | (with_reducible exact ae.refl _)
  | (with_reducible refine ae.ite ?_ ?_)
  | (with_reducible refine ae.bind ?_ (fun _=>?_))
theorem az.mono:∀ a0 a1 a2 a3 k,ae (az.f k a0 a1 a2 a3) (az.f (k+1) a0 a1 a2 a3):=by
 intro a0 a1 a2 a3 k;obtain⟨ih0,ih1,ih2⟩:=az.mono_l k;unfold az.f
 repeat' first
   | (with_reducible exact ih0 _ _ _ _ _ _)
   | (with_reducible exact ae.refl _)
   | (with_reducible refine ae.ite ?_ ?_)
   | (with_reducible refine ae.bind ?_ (fun _=>?_))
set_option maxHeartbeats 8000000 in
set_option maxRecDepth 100000 in
theorem az.calls (k:Nat)(a0:Int)(A1:Option Addr)(c1:Nat)(l1:List Int)(a2:Int)(a3:Int)(r:Bool)(w:World)(hr1:Kd.C (Kd.int .i64) w A1 l1.length l1)(hc1:l1.length<=c1)(h:az.f k a0 l1 a2 a3=some r) :
  Calls Tryz.prog 49 #[.int .i64 a0,.slice A1 l1.length c1,.int .i64 a2,.int .i64 a3] w fun e w'=>e=.returned (.bool r)/\Below w.heap.size w w':=by
 have HR1:=Mw hr1;have HC1:=Mw hc1;clear hr1 hc1;have HB:=Mw (Below.refl w.heap.size w);have H:((dI.f a0).bind fun t304=>(if a2<=8 then (if a3<=8 then (az.j0 k a0 l1 a2 a3 t304 true) else (az.j0 k a0 l1 a2 a3 t304 (decide (a3≥(wrap64 (t304-8)))))) else (az.j0 k a0 l1 a2 a3 t304 false)))=some r:=h;clear h;obtain⟨t304,A5,H⟩:=dE H;have HC6:=Mw H;clear H
 go_enter Tryz.func49,Tryz.ntmps49
 go_upto_region 2 with (first | ((with_reducible refine bg (f:=46) rfl ?_);refine be (some 11) rfl rfl Tryz.func46 (by kernel_rfl) rfl #[.int .i64 a0] rfl (by (try simp only [My,Mz,MA]);first | rfl ) ?_;(with_reducible refine (dI.calls a0 t304 _ A5.out).mono ?_);rintro e w' ⟨rfl,⟨nd,rfl⟩⟩;refine⟨_,rfl,?_⟩))
 go_cut [12] (fun v12 wc=>∃ (kq:Nat) (x12_5:Bool),v12=.bool x12_5/\Aside0 (az.j0 kq a0 l1 a2 a3 t304 x12_5=some r)/\Aside0 (kq<=k)/\Aside0 (Below w.heap.size w wc))
 case first=>
  have H:=HC6.out;clear HC6;by_cases c7:a2<=8;rotate_left
  ·rw [if_neg c7] at H;have c7b0:=decide_eq_false c7;clear c7
   (skip)
   have H':=Mw H;clear H
   go_wp2
   go_meet
   case rel=>exact⟨_,(false),rfl,H',⟨by first | omega ⟩,⟨by repeat (first | (with_reducible first | exact HB.out | apply au ) )⟩⟩
  rw [if_pos c7] at H;have c7b0:=decide_eq_true c7;clear c7
  (skip)
  by_cases c8:a3<=8
  ·rw [if_pos c8] at H;have c8b0:=decide_eq_true c8;clear c8;have H':=Mw H;clear H
   go_wp2
   go_meet
   case rel=>exact⟨_,(true),rfl,H',⟨by first | omega ⟩,⟨by repeat (first | (with_reducible first | exact HB.out | apply au ) )⟩⟩
  rw [if_neg c8] at H;have c8b0:=decide_eq_false c8;clear c8;have H':=Mw H;clear H
  go_wp2
  go_meet
  case rel=>exact⟨_,(decide (a3≥(wrap64 (t304-8)))),rfl,H',⟨by first | omega ⟩,⟨by repeat (first | (with_reducible first | exact HB.out | apply au ) )⟩⟩
 case rest=>
  clear HC6;obtain⟨kq,x12_5,rfl,HA,HJ5,HB⟩:=hcut;cases kq with
  | zero=>exact absurd HA.out (by simp [az.j0])
  | succ kj5=>
   have H:=HA.out;clear HA;simp only [az.j0] at H;have HC9:=Mw H;clear H
   go_upto_if 12 with (fail)
   go_cut [12] (fun v12 wc=>∃ (kq:Nat) (x12_8:Bool),v12=.bool x12_8/\Aside0 (az.j2 kq a0 l1 a2 a3 t304 x12_8=some r)/\Aside0 (kq<=kj5)/\Aside0 (Below w.heap.size w wc))
   case first=>
    have H:=HC9.out;clear HC9;by_cases c10:x12_5=true
    ·subst c10;have H1:(az.j2 kj5 a0 l1 a2 a3 t304 true)=some r:=by rw [if_pos rfl] at H;exact H
     clear H;have H:=H1;clear H1;have H':=Mw H;clear H
     go_wp2
     go_meet
     case rel=>exact⟨_,(true),rfl,H',⟨by have:=HJ5.out;first | omega ⟩,⟨by repeat (first | (with_reducible first | exact HB.out ) )⟩⟩
    replace c10:=Bool.eq_false_iff.mpr c10;subst c10;have H1:(if a2≥(wrap64 (t304-8)) then (az.j1 kj5 a0 l1 a2 a3 t304 (decide (a3<=8))) else (az.j1 kj5 a0 l1 a2 a3 t304 false))=some r:=by rw [if_neg (show ¬ (false=true) by decide)] at H;exact H
    clear H;have H:=H1;clear H1;have HC11:=Mw H;clear H
    go_upto_region 3 with (fail)
    go_cut [12] (fun v12 wc=>∃ (kq:Nat) (x12_10:Bool),v12=.bool x12_10/\Aside0 (az.j1 kq a0 l1 a2 a3 t304 x12_10=some r)/\Aside0 (kq<=kj5)/\Aside0 (Below w.heap.size w wc))
    case first=>
     have H:=HC11.out;clear HC11;by_cases c12:a2≥(wrap64 (t304-8));rotate_left
     ·rw [if_neg c12] at H;have c12b0:=decide_eq_false c12;clear c12
      (skip)
      have H':=Mw H;clear H
      go_wp2
      go_meet
      case rel=>exact⟨_,(false),rfl,H',⟨by have:=HJ5.out;first | omega ⟩,⟨by repeat (first | (with_reducible first | exact HB.out ) )⟩⟩
     rw [if_pos c12] at H;have c12b0:=decide_eq_true c12;clear c12
     (skip)
     have H':=Mw H;clear H
     go_wp2
     go_meet
     case rel=>exact⟨_,(decide (a3<=8)),rfl,H',⟨by have:=HJ5.out;first | omega ⟩,⟨by repeat (first | (with_reducible first | exact HB.out ) )⟩⟩
    case rest=>
     clear HC11;obtain⟨kq,x12_10,rfl,HA,HJ10,HB⟩:=hcut;cases kq with
     | zero=>exact absurd HA.out (by simp [az.j1])
     | succ kj10=>
      have H:=HA.out;clear HA;simp only [az.j1] at H;by_cases c13:x12_10=true
      ·subst c13;have H1:(az.j2 kj10 a0 l1 a2 a3 t304 true)=some r:=by rw [if_pos rfl] at H;exact H
       clear H;have H:=H1;clear H1;have H':=Mw H;clear H
       go_wp2
       go_meet
       case rel=>exact⟨_,(true),rfl,H',⟨by have:=HJ5.out;have:=HJ10.out;first | omega ⟩,⟨by repeat (first | (with_reducible first | exact HB.out ) )⟩⟩
      replace c13:=Bool.eq_false_iff.mpr c13;subst c13;have H1:(if a2=6 then (az.j2 kj10 a0 l1 a2 a3 t304 (a2==6)) else (az.j2 kj10 a0 l1 a2 a3 t304 (a3==6)))=some r:=by rw [if_neg (show ¬ (false=true) by decide)] at H;exact H
      clear H;have H:=H1;clear H1;by_cases c14:a2=6;rotate_left
      ·rw [if_neg c14] at H;have c14b0:(a2==6)=false:=beq_eq_false_iff_ne.mpr c14;have c14b1:(a2 != 6)=true:=bne_iff_ne.mpr c14;have H':=Mw H;clear H
       go_wp2
       go_meet
       case rel=>exact⟨_,((a3==6)),rfl,H',⟨by have:=HJ5.out;have:=HJ10.out;first | omega ⟩,⟨by repeat (first | (with_reducible first | exact HB.out ) )⟩⟩
      rw [if_pos c14] at H;have c14b0:(a2==6)=true:=beq_iff_eq.mpr c14;have c14b1:(a2 != 6)=false:=bne_eq_false_iff_eq.mpr c14;clear c14;have H':=Mw H;clear H
      go_wp2
      go_meet
      case rel=>exact⟨_,((a2==6)),(by first | (simp [*];done)),H',⟨by have:=HJ5.out;have:=HJ10.out;first | omega ⟩,⟨by repeat (first | (with_reducible first | exact HB.out ) )⟩⟩
   case rest=>
    clear HC9;obtain⟨kq,x12_8,rfl,HA,HJ8,HB⟩:=hcut;cases kq with
    | zero=>exact absurd HA.out (by simp [az.j2])
    | succ kj8=>
     have H:=HA.out;clear HA;simp only [az.j2] at H;by_cases c15:x12_8=true
     ·subst c15;have H1:(some true)=some r:=by rw [if_pos rfl] at H;exact H
      clear H;have H:=H1;clear H1;obtain rfl:=Option.some.inj H
      go_wp2
      go_ret
      exact⟨by first | rfl ,by repeat (first | (with_reducible first | exact HB.out ) )⟩
     replace c15:=Bool.eq_false_iff.mpr c15;subst c15;have H1:(if a0≥7 then (if a2<=5 then (if a3≥(wrap64 (t304-11)) then (some true) else (if a3<=5 then (if a2≥(wrap64 (t304-11)) then (some true) else ((ah.f kj8 l1 a2 a3).bind fun t305=>(some (decide (t305≥0))))) else ((ah.f kj8 l1 a2 a3).bind fun t306=>(some (decide (t306≥0)))))) else (if a3<=5 then (if a2≥(wrap64 (t304-11)) then (some true) else ((ah.f kj8 l1 a2 a3).bind fun t307=>(some (decide (t307≥0))))) else ((ah.f kj8 l1 a2 a3).bind fun t308=>(some (decide (t308≥0)))))) else ((ah.f kj8 l1 a2 a3).bind fun t309=>(some (decide (t309≥0)))))=some r:=by rw [if_neg (show ¬ (false=true) by decide)] at H;exact H
     clear H;have H:=H1;clear H1;by_cases c16:a0≥7;rotate_left
     ·rw [if_neg c16] at H;have c16b0:=decide_eq_false c16;clear c16;obtain⟨t309,A31,H⟩:=dE H;obtain rfl:=Option.some.inj H
      go_wp2_with (first | ((with_reducible refine bg (f:=96) rfl ?_);refine be (some 63) rfl rfl Tryz.func96 (by kernel_rfl) rfl #[.slice A1 l1.length c1,.int .i64 a2,.int .i64 a3] rfl (by (try simp only [My,Mz,MA]);first | rfl ) ?_;(with_reducible refine (ah.calls kj8 _ _ l1 a2 a3 t309 _ ?side1 ?side2 A31.out).mono ?_);(case side1=>repeat (first | exact (Kd.bB HR1.out HB.out) ));(case side2=>exact HC1.out);rintro e w32 ⟨rfl,hb⟩;refine⟨_,rfl,?_⟩;have n0_:=Mw (bo (by repeat (first | (with_reducible first | exact HB.out ) )) hb);clear HB;have HB:=n0_;clear n0_;(try clear hb)))
      go_ret
      exact⟨by first | rfl ,by repeat (first | (with_reducible first | exact HB.out ) )⟩
     rw [if_pos c16] at H;have c16b0:=decide_eq_true c16;clear c16;by_cases c17:a2<=5;rotate_left
     ·rw [if_neg c17] at H;have c17b0:=decide_eq_false c17;clear c17;by_cases c25:a3<=5;rotate_left
      ·rw [if_neg c25] at H;have c25b0:=decide_eq_false c25;clear c25;obtain⟨t308,A29,H⟩:=dE H;obtain rfl:=Option.some.inj H
       go_wp2_with (first | ((with_reducible refine bg (f:=96) rfl ?_);refine be (some 63) rfl rfl Tryz.func96 (by kernel_rfl) rfl #[.slice A1 l1.length c1,.int .i64 a2,.int .i64 a3] rfl (by (try simp only [My,Mz,MA]);first | rfl ) ?_;(with_reducible refine (ah.calls kj8 _ _ l1 a2 a3 t308 _ ?side1 ?side2 A29.out).mono ?_);(case side1=>repeat (first | exact (Kd.bB HR1.out HB.out) ));(case side2=>exact HC1.out);rintro e w30 ⟨rfl,hb⟩;refine⟨_,rfl,?_⟩;have n0_:=Mw (bo (by repeat (first | (with_reducible first | exact HB.out ) )) hb);clear HB;have HB:=n0_;clear n0_;(try clear hb)))
       go_ret
       exact⟨by first | rfl ,by repeat (first | (with_reducible first | exact HB.out ) )⟩
      rw [if_pos c25] at H;have c25b0:=decide_eq_true c25;clear c25;by_cases c26:a2≥(wrap64 (t304-11))
      ·rw [if_pos c26] at H;have c26b0:=decide_eq_true c26;clear c26;obtain rfl:=Option.some.inj H
       go_wp2
       go_ret
       exact⟨by first | rfl ,by repeat (first | (with_reducible first | exact HB.out ) )⟩
      rw [if_neg c26] at H;have c26b0:=decide_eq_false c26;clear c26;obtain⟨t307,A27,H⟩:=dE H;obtain rfl:=Option.some.inj H
      go_wp2_with (first | ((with_reducible refine bg (f:=96) rfl ?_);refine be (some 63) rfl rfl Tryz.func96 (by kernel_rfl) rfl #[.slice A1 l1.length c1,.int .i64 a2,.int .i64 a3] rfl (by (try simp only [My,Mz,MA]);first | rfl ) ?_;(with_reducible refine (ah.calls kj8 _ _ l1 a2 a3 t307 _ ?side1 ?side2 A27.out).mono ?_);(case side1=>repeat (first | exact (Kd.bB HR1.out HB.out) ));(case side2=>exact HC1.out);rintro e w28 ⟨rfl,hb⟩;refine⟨_,rfl,?_⟩;have n0_:=Mw (bo (by repeat (first | (with_reducible first | exact HB.out ) )) hb);clear HB;have HB:=n0_;clear n0_;(try clear hb)))
      go_ret
      exact⟨by first | rfl ,by repeat (first | (with_reducible first | exact HB.out ) )⟩
     rw [if_pos c17] at H;have c17b0:=decide_eq_true c17;clear c17;by_cases c18:a3≥(wrap64 (t304-11))
     ·rw [if_pos c18] at H;have c18b0:=decide_eq_true c18;clear c18;obtain rfl:=Option.some.inj H
      go_wp2
      go_ret
      exact⟨by first | rfl ,by repeat (first | (with_reducible first | exact HB.out ) )⟩
     rw [if_neg c18] at H;have c18b0:=decide_eq_false c18;clear c18;by_cases c19:a3<=5;rotate_left
     ·rw [if_neg c19] at H;have c19b0:=decide_eq_false c19;clear c19;obtain⟨t306,A23,H⟩:=dE H;obtain rfl:=Option.some.inj H
      go_wp2_with (first | ((with_reducible refine bg (f:=96) rfl ?_);refine be (some 63) rfl rfl Tryz.func96 (by kernel_rfl) rfl #[.slice A1 l1.length c1,.int .i64 a2,.int .i64 a3] rfl (by (try simp only [My,Mz,MA]);first | rfl ) ?_;(with_reducible refine (ah.calls kj8 _ _ l1 a2 a3 t306 _ ?side1 ?side2 A23.out).mono ?_);(case side1=>repeat (first | exact (Kd.bB HR1.out HB.out) ));(case side2=>exact HC1.out);rintro e w24 ⟨rfl,hb⟩;refine⟨_,rfl,?_⟩;have n0_:=Mw (bo (by repeat (first | (with_reducible first | exact HB.out ) )) hb);clear HB;have HB:=n0_;clear n0_;(try clear hb)))
      go_ret
      exact⟨by first | rfl ,by repeat (first | (with_reducible first | exact HB.out ) )⟩
     rw [if_pos c19] at H;have c19b0:=decide_eq_true c19;clear c19;by_cases c20:a2≥(wrap64 (t304-11))
     ·rw [if_pos c20] at H;have c20b0:=decide_eq_true c20;clear c20;obtain rfl:=Option.some.inj H
      go_wp2
      go_ret
      exact⟨by first | rfl ,by repeat (first | (with_reducible first | exact HB.out ) )⟩
     rw [if_neg c20] at H;have c20b0:=decide_eq_false c20;clear c20;obtain⟨t305,A21,H⟩:=dE H;obtain rfl:=Option.some.inj H
     go_wp2_with (first | ((with_reducible refine bg (f:=96) rfl ?_);refine be (some 63) rfl rfl Tryz.func96 (by kernel_rfl) rfl #[.slice A1 l1.length c1,.int .i64 a2,.int .i64 a3] rfl (by (try simp only [My,Mz,MA]);first | rfl ) ?_;(with_reducible refine (ah.calls kj8 _ _ l1 a2 a3 t305 _ ?side1 ?side2 A21.out).mono ?_);(case side1=>repeat (first | exact (Kd.bB HR1.out HB.out) ));(case side2=>exact HC1.out);rintro e w22 ⟨rfl,hb⟩;refine⟨_,rfl,?_⟩;have n0_:=Mw (bo (by repeat (first | (with_reducible first | exact HB.out ) )) hb);clear HB;have HB:=n0_;clear n0_;(try clear hb)))
     go_ret
     exact⟨by first | rfl ,by repeat (first | (with_reducible first | exact HB.out ) )⟩
end Go.Proofs.YtgccjgpdjkhpdaaGreat.F
namespace Go.Proofs.YtgccjgpdjkhpdaaGreat.F
open Go.RowKit Go.Proofs.YtgccjgpdjkhpdaaGreatW.PrintWords Go.Proofs.YtgccjgpdjkhpdaaGreatW.PrintLast Go.Proofs.YtgccjgpdjkhpdaaGreatW.PrintMore
attribute [local go_sem] fB fC fD fE fF fG fH fI
set_option linter.unusedVariables false
set_option linter.unusedSimpArgs false
mutual
def aX.j0:Nat->Int->Int->Int->Option (List Int)
 | 0,_,_,_=>none
 | k+1,x0,x3,x4=>if 0<=x3 then (if (x3:Int).toNat<=35184372088832 then ((some (MC (x3:Int).toNat 0:List Int)).bind fun y295=>(if 0<(y295.length:Int) then (aX.l0 k x0 x3 x4 (y295.set (0:Int).toNat 6) 1) else (none))) else (none)) else (none)
def aX.l0:Nat->Int->Int->Int->List Int->Int->Option (List Int)
 | 0,_,_,_,_,_=>none
 | k+1,x0,x3,x4,x5,x6=>if x6<x3 then ((dI.f x0).bind fun t299=>(if 0<=x6 then (if x6<(x5.length:Int) then (aX.l0 k x0 x3 x4 (x5.set (x6:Int).toNat (wrap64 ((wrap64 (t299-7))-(wrap64 (x4*(wrap64 ((wrap64 (x3-1))-x6))))))) (wrap64 (x6+1))) else (none)) else (none))) else (some x5)
end
def aX.f (k:Nat)(a0:Int):Option (List Int):=if a0=1 then (some ([]:List Int)) else (if (wrap64 ((wrap64 ((wrap64 ((wrap64 (Mx a0 7))+2))*2))-2))=0 then (none) else (if a0=32 then (aX.j0 k a0 (wrap64 ((wrap64 (Mx a0 7))+2)) 26) else (aX.j0 k a0 (wrap64 ((wrap64 (Mx a0 7))+2)) (wrap64 ((wrap64 (Mx (wrap64 ((wrap64 ((wrap64 (a0*4))+(wrap64 ((wrap64 ((wrap64 (Mx a0 7))+2))*2))))+1)) (wrap64 ((wrap64 ((wrap64 ((wrap64 (Mx a0 7))+2))*2))-2))))*2)))))
theorem aX.mono_l:∀ k,(∀ y0 y1 y2,ae (aX.j0 k y0 y1 y2) (aX.j0 (k+1) y0 y1 y2))/\(∀ y0 y1 y2 y3 y4,ae (aX.l0 k y0 y1 y2 y3 y4) (aX.l0 (k+1) y0 y1 y2 y3 y4))
 | 0=>⟨fun _ _ _ r h=>by simp [aX.j0] at h,fun _ _ _ _ _ r h=>by simp [aX.l0] at h⟩
 | k+1=>by
  obtain⟨ih0,ih1⟩:=aX.mono_l k;refine⟨?_,?_⟩
  ·intro y0 y1 y2;unfold aX.j0
   repeat' first
   | (with_reducible exact ih1 _ _ _ _ _)
   | (with_reducible exact ae.refl _)
   | (with_reducible refine ae.ite ?_ ?_)
   | (with_reducible refine ae.bind ?_ (fun _=>?_))
  intro y0 y1 y2 y3 y4;unfold aX.l0
  repeat' first
  | (with_reducible exact ih1 _ _ _ _ _)
  | (with_reducible exact ae.refl _)
  | (with_reducible refine ae.ite ?_ ?_)
  | (with_reducible refine ae.bind ?_ (fun _=>?_))
theorem aX.mono:∀ a0 k,ae (aX.f k a0) (aX.f (k+1) a0):=by
 intro a0 k;obtain⟨ih0,ih1⟩:=aX.mono_l k;unfold aX.f
 repeat' first
   | (with_reducible exact ih0 _ _ _)
   | (with_reducible exact ae.refl _)
   | (with_reducible refine ae.ite ?_ ?_)
set_option maxHeartbeats 8000000 in
set_option maxRecDepth 100000 in
theorem aX.calls (k:Nat)(a0:Int)(r:List Int)(w:World)(h:aX.f k a0=some r) :
  Calls Tryz.prog 48 #[.int .i64 a0] w fun e w'=>∃ v0_:Value,e=.returned (v0_)/\Kd.R (Kd.int .i64) 3 w' w.heap.size (fun _=>True) v0_ r/\Below w.heap.size w w':=by
 have HB:=Mw (Below.refl w.heap.size w);have H:(if a0=1 then (some ([]:List Int)) else (if (wrap64 ((wrap64 ((wrap64 ((wrap64 (Mx a0 7))+2))*2))-2))=0 then (none) else (if a0=32 then (aX.j0 k a0 (wrap64 ((wrap64 (Mx a0 7))+2)) 26) else (aX.j0 k a0 (wrap64 ((wrap64 (Mx a0 7))+2)) (wrap64 ((wrap64 (Mx (wrap64 ((wrap64 ((wrap64 (a0*4))+(wrap64 ((wrap64 ((wrap64 (Mx a0 7))+2))*2))))+1)) (wrap64 ((wrap64 ((wrap64 ((wrap64 (Mx a0 7))+2))*2))-2))))*2))))))=some r:=h;clear h;by_cases c2:a0=1
 ·rw [if_pos c2] at H;have c2b0:(a0==1)=true:=beq_iff_eq.mpr c2;have c2b1:(a0 != 1)=false:=bne_eq_false_iff_eq.mpr c2;clear c2;obtain rfl:=Option.some.inj H
  go_enter Tryz.func48,Tryz.ntmps48
  go_wp2
  go_ret
  exact⟨_,by first | rfl ,by first | exact Kd.oq _ _ _ _ _ ,by repeat (first | (with_reducible first | exact HB.out ) )⟩
 rw [if_neg c2] at H;have c2b0:(a0==1)=false:=beq_eq_false_iff_ne.mpr c2;have c2b1:(a0 != 1)=true:=bne_iff_ne.mpr c2;by_cases c3:(wrap64 ((wrap64 ((wrap64 ((wrap64 (Mx a0 7))+2))*2))-2))=0
 ·rw [if_pos c3] at H;exact absurd H (by simp)
 rw [if_neg c3] at H;have c3b0:((wrap64 ((wrap64 ((wrap64 ((wrap64 (Mx a0 7))+2))*2))-2))==0)=false:=beq_eq_false_iff_ne.mpr c3;have c3b1:((wrap64 ((wrap64 ((wrap64 ((wrap64 (Mx a0 7))+2))*2))-2)) != 0)=true:=bne_iff_ne.mpr c3;have HC4:=Mw H;clear H
 go_enter Tryz.func48,Tryz.ntmps48
 go_upto_if 24 with (fail)
 go_cut [4] (fun v4 wc=>∃ (kq:Nat) (x4_3:Int),v4=.int .i64 x4_3/\Aside0 (aX.j0 kq a0 (wrap64 ((wrap64 (Mx a0 7))+2)) x4_3=some r)/\Aside0 (kq<=k)/\Aside0 (Below w.heap.size w wc))
 case first=>
  have H:=HC4.out;clear HC4;by_cases c5:a0=32
  ·rw [if_pos c5] at H;have c5b0:(a0==32)=true:=beq_iff_eq.mpr c5;have c5b1:(a0 != 32)=false:=bne_eq_false_iff_eq.mpr c5;clear c5
   (rw [c5b0])
   have H':=Mw H;clear H
   go_wp2
   go_meet
   case rel=>exact⟨_,(26),rfl,H',⟨by first | omega ⟩,⟨by repeat (first | (with_reducible first | exact HB.out ) )⟩⟩
  rw [if_neg c5] at H;have c5b0:(a0==32)=false:=beq_eq_false_iff_ne.mpr c5;have c5b1:(a0 != 32)=true:=bne_iff_ne.mpr c5
  (rw [c5b0])
  have H':=Mw H;clear H
  go_wp2
  go_meet
  case rel=>exact⟨_,(wrap64 ((wrap64 (Mx (wrap64 ((wrap64 ((wrap64 (a0*4))+(wrap64 ((wrap64 ((wrap64 (Mx a0 7))+2))*2))))+1)) (wrap64 ((wrap64 ((wrap64 ((wrap64 (Mx a0 7))+2))*2))-2))))*2)),rfl,H',⟨by first | omega ⟩,⟨by repeat (first | (with_reducible first | exact HB.out ) )⟩⟩
 case rest=>
  clear HC4 c2 c2b0 c2b1 c3 c3b0 c3b1;obtain⟨kq,x4_3,rfl,HA,HJ3,HB⟩:=hcut;cases kq with
  | zero=>exact absurd HA.out (by simp [aX.j0])
  | succ kj3=>
   have H:=HA.out;clear HA;simp only [aX.j0] at H;obtain⟨ji6,hji6⟩:∃ j_:Int,(wrap64 ((wrap64 (Mx a0 7))+2))=j_:=⟨_,rfl⟩;replace H:(if 0<=(ji6) then (if ((ji6):Int).toNat<=35184372088832 then ((some (MC ((ji6):Int).toNat 0:List Int)).bind fun y295=>(if 0<(y295.length:Int) then (aX.l0 kj3 a0 (ji6) x4_3 (y295.set (0:Int).toNat 6) 1) else (none))) else (none)) else (none))=some r:=by first | (rw [hji6] at H;exact H)
   have hji6w:(IntKind.i64.wrap ((wrap64 (Mx a0 7))+2))=ji6:=(gK _).trans hji6;obtain⟨c7,H⟩:=bE H;have c7b0:=eq_true c7;have c7b1:=decide_eq_true c7;clear c7;obtain⟨c8,H⟩:=bE H;have c8b0:=eq_true c8;have c8b1:=decide_eq_true c8;clear c8;obtain⟨y295,hy295⟩:∃ y_:List Int,y_=(MC ((ji6):Int).toNat 0):=⟨_,rfl⟩;replace H:(if 0<(y295.length:Int) then (aX.l0 kj3 a0 (ji6) x4_3 (y295.set (0:Int).toNat 6) 1) else (none))=some r:=by first | (have H2_:=(Option.bind_some _ _).symm.trans H;rw [hy295];with_reducible exact H2_)
   have Ny295:=Mw hy295;clear hy295;obtain⟨c9,H⟩:=bE H;have c9b0:=decide_eq_true c9;have c9b1:decide (0<y295.length)=true:=decide_eq_true (by omega);clear c9;obtain⟨y298,hy298⟩:∃ y_:List Int,y_=(y295.set (0:Int).toNat 6):=⟨_,rfl⟩;replace H:(aX.l0 kj3 a0 (ji6) x4_3 y298 1)=some r:=by first | (rw [hy298];with_reducible exact H)
   have Ny298:=Mw hy298;clear hy298;have H':=Mw H;clear H
   try rw [hji6]
   go_wp2_with (first | ((with_reducible refine de (N:=26) rfl ?_);refine Kd.pO (Kd.int .i64) _ 3 rfl (N:=26) rfl 93 _ _ rfl (ji6) rfl rfl Tryz.underlying93 (.int .i64 0) 8 Eo rfl (by decide) (by omega) 0 (ok:=fun _=>True) (okp:=fun _=>True) rfl (fun _ hk=>hk) trivial (of_decide_eq_true (by first | (with_reducible assumption) )) (Nat.le_trans (MF _ (of_decide_eq_true (by first | (with_reducible assumption) ):(ji6).toNat<=35184372088832)) (by omega)) (Below.refl _ _) (MB _) ?_;intro v296 w11 ho12 hb hg_ hnew_;clear hg_ hnew_;(rw [<- Ny295.out] at ho12);have n0_:=Mw (Kd.fz ho12 (eL (by repeat (first | (with_reducible first | exact HB.out ) ))));have n1_:=Mw (bo (by repeat (first | (with_reducible first | exact HB.out ) )) hb);clear HB;have HO297:=n0_;have HB:=n1_;clear n0_ n1_;clear hb ho12;have p10:0<=(0:Int):=(by omega);have q10:(0:Int)<((y295.length:Int):Int):=of_decide_eq_true (by first | (with_reducible assumption) );have qi10:(0<y295.length)=True:=eq_true (by omega);obtain⟨go10,co10,eo10,gb10,gl10,cl10,HG10⟩:=Kd.mr HO297.out (by omega);(cases eo10);have GB10:=Mw gb10;have GG10:=Mw HG10;clear gb10 gl10 HG10;obtain⟨hx10_0,hf10_0⟩:=Kd.ms 0 HO297.out (0:Int) p10 q10;(try rw [show ((0:Int)).toNat=0 from rfl] at hx10_0); (try rw [show ((0:Int)).toNat=0 from rfl] at hf10_0); replace p10:=eq_true p10;replace q10:=eq_true q10;obtain⟨hy13_,hz13_⟩:=Kd.ms 0 HO297.out (0:Int) (by omega) (of_decide_eq_true (by first | (with_reducible assumption) )); (try rw [show ((0:Int)).toNat=0 from rfl] at hy13_);(try rw [show ((0:Int)).toNat=0 from rfl] at hz13_);have HP13:=Kd.oz HO297.out (0:Int) 6) | ((with_reducible refine pU (t:=3) (p:=28) rfl ?_);refine pT (t:=3) (p:=28) (v:=?vo_w14) (w1:=(w11.setCell ⟨go10,(0:Int).toNat,none⟩ (.int .i64 6))) ?hg ?ho ?hn ?hr ?_;(case ho=>rfl);(case hg=>rfl);(case hn=>rfl);(case hr=>first | (go_simp;done) );intro w14 hw;have hg:w11.grownBy w14 (some go10):=(by rw [hw];exact HP13.2);have hp_:Kd.R (Kd.int .i64) 3 w14 w.heap.size (fun _=>True) (.slice (some ⟨go10,0,none⟩) y295.length co10) y298:=(by rw [hw,Ny298.out];exact HP13.1);clear HP13;have n0_:=Mw (hp_);have n1_:=Mw ((by rw [hw];exact gJ (HB.out) GB10.out:Below w.heap.size w w14));clear HO297;clear HB;have HO297:=n0_;have HB:=n1_;clear n0_ n1_;clear hg hw hp_))
   go_loopg [6] kj3 (fun kq v6 w'=>∃ (x5_2:List Int) (x6_2:Int),v6=.int .i64 x6_2/\Aside0 (aX.l0 kq a0 (ji6) x4_3 x5_2 x6_2=some r)/\Aside0 (kq<=kj3)/\Aside0 (Kd.R (Kd.int .i64) 3 w' w.heap.size (fun _=>True) (.slice (some ⟨go10,0,none⟩) y295.length co10) x5_2)/\Aside0 (Below w.heap.size w w'))
   case atStart=>exact⟨(y298),(1),rfl,H',⟨MB _⟩,⟨by (with_reducible repeat (apply Kd.cG));exact HO297.out⟩,⟨by repeat (first | (with_reducible first | exact HB.out ) )⟩⟩
   case round=>
    clear H' c7b0 c7b1 c8b0 c8b1 c9b0 c9b1 p10 q10 qi10 hx10_0;obtain⟨x5_2,x6_2,rfl,HA,HK2,HO_5,HB⟩:=hrel;have hl5_2:=(Kd.fi HO_5.out).1;rw [hl5_2] at HO_5
    (try simp only [hl5_2])
    cases gk with
    | zero=>exact absurd HA.out (by simp [aX.l0])
    | succ k2=>
     have H:=HA.out;clear HA;simp only [aX.l0] at H;by_cases c15:x6_2<(ji6);rotate_left
     ·rw [if_neg c15] at H;have c15b0:=decide_eq_false c15;clear c15;obtain rfl:=Option.some.inj H
      go_wp2
      go_ret
      exact⟨_,by first | rfl ,by (with_reducible repeat (apply Kd.cG));exact HO_5.out,by repeat (first | (with_reducible first | exact HB.out ) )⟩
     rw [if_pos c15] at H;have c15b0:=decide_eq_true c15;clear c15;obtain⟨t299,A16,H⟩:=dE H;obtain⟨c17,H⟩:=bE H;have c17b0:=decide_eq_true c17;clear c17;obtain⟨c18,H⟩:=bE H;have c18b0:=decide_eq_true c18;clear c18;obtain⟨y300,hy300⟩:∃ y_:List Int,y_=(x5_2.set (x6_2:Int).toNat (wrap64 ((wrap64 (t299-7))-(wrap64 (x4_3*(wrap64 ((wrap64 ((ji6)-1))-x6_2))))))):=⟨_,rfl⟩;replace H:(aX.l0 k2 a0 (ji6) x4_3 y300 (wrap64 (x6_2+1)))=some r:=by first | (rw [hy300];with_reducible exact H)
     have Ny300:=Mw hy300;clear hy300;have H':=Mw H;clear H
     go_wp2_with (first | ((with_reducible refine bg (f:=46) rfl ?_);refine be (some 37) rfl rfl Tryz.func46 (by kernel_rfl) rfl #[.int .i64 a0] rfl (by (try simp only [My,Mz,MA]);first | rfl ) ?_;(with_reducible refine (dI.calls a0 t299 _ A16.out).mono ?_);rintro e w' ⟨rfl,⟨nd,rfl⟩⟩;refine⟨_,rfl,?_⟩;(try (rw [B5 wr];generalize hq_:World.drewN wr _=wr;have n0_:Aside0 (Kd.R (Kd.int .i64) 3 wr w.heap.size (fun _=>True) (.slice (some ⟨go10,0,none⟩) x5_2.length co10) x5_2):=⟨by rw [<- hq_];exact (by (with_reducible repeat (apply Kd.Bu));exact HO_5.out)⟩;have n1_:Aside0 (Below w.heap.size w wr):=⟨by rw [<- hq_];exact (by repeat (first | (with_reducible first | exact HB.out | apply au ) ))⟩;clear HO_5 HB hq_;have HO_5:=n0_;have HB:=n1_;clear n0_ n1_));have p19:0<=(x6_2:Int):=of_decide_eq_true (by first | (with_reducible assumption) );have q19:(x6_2:Int)<((x5_2.length:Int):Int):=of_decide_eq_true (by first | (with_reducible assumption) );obtain⟨hx19_0,hf19_0⟩:=Kd.ms 0 HO_5.out (x6_2:Int) p19 q19;replace p19:=eq_true p19;replace q19:=eq_true q19;obtain⟨hy20_,hz20_⟩:=Kd.ms 0 HO_5.out (x6_2:Int) (of_decide_eq_true (by first | (with_reducible assumption) )) (of_decide_eq_true (by first | (with_reducible assumption) ));have HP20:=Kd.oz HO_5.out (x6_2:Int) (wrap64 ((wrap64 (t299-7))-(wrap64 (x4_3*(wrap64 ((wrap64 ((ji6)-1))-x6_2))))))) | ((with_reducible refine pU (t:=3) (p:=46) rfl ?_);refine pT (t:=3) (p:=46) (v:=?vo_w21) (w1:=(wr.setCell ⟨go10,(x6_2:Int).toNat,none⟩ (.int .i64 (wrap64 ((wrap64 (t299-7))-(wrap64 (x4_3*(wrap64 ((wrap64 ((ji6)-1))-x6_2))))))))) ?hg ?ho ?hn ?hr ?_;(case ho=>rfl);(case hg=>rfl);(case hn=>rfl);(case hr=>first | (go_simp;done) );intro w21 hw;have hg:wr.grownBy w21 (some go10):=(by rw [hw];exact HP20.2);have hp_:Kd.R (Kd.int .i64) 3 w21 w.heap.size (fun _=>True) (.slice (some ⟨go10,0,none⟩) x5_2.length co10) y300:=(by rw [hw,Ny300.out];exact HP20.1);clear HP20;have n0_:=Mw (hp_);have n1_:=Mw ((by rw [hw];exact gJ (HB.out) GB10.out:Below w.heap.size w w21));clear HO_5;clear HB;have HO_5:=n0_;have HB:=n1_;clear n0_ n1_;clear hg hw hp_))
     (try simp only [<- hl5_2])
     go_roundg k2
     case measure=>have:=HJ3.out;have:=HK2.out;omega
     case rel=>exact⟨(y300),(wrap64 (x6_2+1)),rfl,H',⟨by have:=HJ3.out;have:=HK2.out;omega⟩,⟨by (try simp only [hl5_2]);(with_reducible repeat (apply Kd.cG));exact HO_5.out⟩,⟨by repeat (first | (with_reducible first | exact HB.out ) )⟩⟩
end Go.Proofs.YtgccjgpdjkhpdaaGreat.F
namespace Go.Proofs.YtgccjgpdjkhpdaaGreat.F
open Go.RowKit Go.Proofs.YtgccjgpdjkhpdaaGreatW.PrintWords Go.Proofs.YtgccjgpdjkhpdaaGreatW.PrintLast Go.Proofs.YtgccjgpdjkhpdaaGreatW.PrintMore
attribute [local go_sem] fB fC fD fE fF fG fH fI
set_option linter.unusedVariables false
set_option linter.unusedSimpArgs false
mutual
def aY.l0:Nat->Int->Int->List Int->List (List Bool)->Int->Int->Option ((List (List Bool)))
 | 0,_,_,_,_,_,_=>none
 | k+1,x0,x3,x4,x5,x15,x16=>if x16<x15 then (if 0<=x3 then (if (x3:Int).toNat<=281474976710656 then (if 0<=x16 then (if x16<(x5.length:Int) then ((some (x5.set (x16:Int).toNat (MC (x3:Int).toNat false):List (List Bool))).bind fun y388=>(aY.l1 k x0 x3 x4 y388 x16 x15 x16 ((aV y388 x16).length:Int) 0)) else (none)) else (none)) else (none)) else (none)) else (some x5)
def aY.l1:Nat->Int->Int->List Int->List (List Bool)->Int->Int->Int->Int->Int->Option ((List (List Bool)))
 | 0,_,_,_,_,_,_,_,_,_=>none
 | k+1,x0,x3,x4,x5,x6,x15,x16,x28,x29=>if x29<x28 then (if 0<=x6 then (if x6<(x5.length:Int) then ((az.f k x0 x4 x6 x29).bind fun t391=>(if 0<=x29 then (if x29<((aV x5 x6).length:Int) then (aY.l1 k x0 x3 x4 (x5.set (x6:Int).toNat ((aV x5 x6).set (x29:Int).toNat t391)) x6 x15 x16 x28 (wrap64 (x29+1))) else (none)) else (none))) else (none)) else (none)) else (aY.l0 k x0 x3 x4 x5 x15 (wrap64 (x16+1)))
end
def aY.f (k:Nat)(a0:Int):Option ((List (List Bool))):=(dI.f a0).bind fun t378=>((aX.f k a0).bind fun t379=>(if 0<=t378 then (if (t378:Int).toNat<=11728124029610 then ((some (MC (t378:Int).toNat []:List (List Bool))).bind fun y382=>(aY.l0 k a0 t378 t379 y382 (y382.length:Int) 0)) else (none)) else (none)))
theorem aY.mono_l:∀ k,(∀ y0 y1 y2 y3 y4 y5,ae (aY.l0 k y0 y1 y2 y3 y4 y5) (aY.l0 (k+1) y0 y1 y2 y3 y4 y5))/\(∀ y0 y1 y2 y3 y4 y5 y6 y7 y8,ae (aY.l1 k y0 y1 y2 y3 y4 y5 y6 y7 y8) (aY.l1 (k+1) y0 y1 y2 y3 y4 y5 y6 y7 y8))
 | 0=>⟨fun _ _ _ _ _ _ r h=>by simp [aY.l0] at h,fun _ _ _ _ _ _ _ _ _ r h=>by simp [aY.l1] at h⟩
 | k+1=>by
  obtain⟨ih0,ih1⟩:=aY.mono_l k;refine⟨?_,?_⟩
  ·intro y0 y1 y2 y3 y4 y5;unfold aY.l0
   repeat' first
   | (with_reducible exact ih1 _ _ _ _ _ _ _ _ _)
   | (with_reducible exact ae.refl _)
   | (with_reducible refine ae.ite ?_ ?_)
   | (with_reducible refine ae.bind ?_ (fun _=>?_))
  intro y0 y1 y2 y3 y4 y5 y6 y7 y8;unfold aY.l1
  repeat' first
  | (with_reducible exact ih0 _ _ _ _ _ _)
  | (with_reducible exact ih1 _ _ _ _ _ _ _ _ _)
  | (with_reducible exact az.mono _ _ _ _ _)
  | (with_reducible exact ae.refl _)
  | (with_reducible refine ae.ite ?_ ?_)
  | (with_reducible refine ae.bind ?_ (fun _=>?_))
theorem aY.mono:∀ a0 k,ae (aY.f k a0) (aY.f (k+1) a0):=by
 intro a0 k;obtain⟨ih0,ih1⟩:=aY.mono_l k;unfold aY.f
 repeat' first
   | (with_reducible exact ih0 _ _ _ _ _ _)
   | (with_reducible exact aX.mono _ _)
   | (with_reducible exact ae.refl _)
   | (with_reducible refine ae.ite ?_ ?_)
   | (with_reducible refine ae.bind ?_ (fun _=>?_))
def aY.T11:Bool×List (List Nat×List Nat):=(true,[([],[]),([],[]),([0,1],[0,1]),([2],[2]),([],[]),([],[]),([],[]),([],[]),([],[]),([5,6,7,8],[5,6,7,8]),([3,4,0,1,2,3,4,5,6,7,8,9],[3,4]),([10,9,9,0,1,2,3,4,5,6,7,8,9],[9,10])])
def aY.B11:List Nat:=[0,0,3,7,0,0,0,0,0,480,1023,2047]
theorem aY.tab11:cH .any (lC Tryz.f121 11)=aY.T11:=by kernel_rfl
theorem aY.bits11:iw aY.T11.2 aY.B11=true:=by kernel_rfl
set_option maxHeartbeats 8000000 in
set_option maxRecDepth 100000 in
theorem aY.calls (k:Nat)(a0:Int)(r:List (List Bool))(w:World)(h:aY.f k a0=some r) :
  Calls Tryz.prog 121 #[.int .i64 a0] w fun e w'=>∃ v0_:Value,e=.returned (v0_)/\Kd.S (Kd.slice 4 Kd.bool) 45 w' w.heap.size (fun _=>True) v0_ r/\Below w.heap.size w w':=by
 have HB:=Mw (Below.refl w.heap.size w);have H:((dI.f a0).bind fun t378=>((aX.f k a0).bind fun t379=>(if 0<=t378 then (if (t378:Int).toNat<=11728124029610 then ((some (MC (t378:Int).toNat []:List (List Bool))).bind fun y382=>(aY.l0 k a0 t378 t379 y382 (y382.length:Int) 0)) else (none)) else (none))))=some r:=h;clear h;obtain⟨t378,A2,H⟩:=dE H;obtain⟨t379,A3,H⟩:=dE H;obtain⟨c4,H⟩:=bE H;have c4b0:=eq_true c4;have c4b1:=decide_eq_true c4;clear c4;obtain⟨c5,H⟩:=bE H;have c5b0:=eq_true c5;have c5b1:=decide_eq_true c5;clear c5;obtain⟨y382,hy382⟩:∃ y_:List (List Bool),y_=(MC (t378:Int).toNat []):=⟨_,rfl⟩;replace H:(aY.l0 k a0 t378 t379 y382 (y382.length:Int) 0)=some r:=by first | (have H2_:=(Option.bind_some _ _).symm.trans H;rw [hy382];with_reducible exact H2_)
 have Ny382:=Mw hy382;clear hy382;have H':=Mw H;clear H
 go_enter Tryz.func121,Tryz.ntmps121
 go_wp2_with (first | ((with_reducible refine bg (f:=46) rfl ?_);refine be (some 9) rfl rfl Tryz.func46 (by kernel_rfl) rfl #[.int .i64 a0] rfl (by (try simp only [My,Mz,MA]);first | rfl ) ?_;(with_reducible refine (dI.calls a0 t378 _ A2.out).mono ?_);rintro e w' ⟨rfl,⟨nd,rfl⟩⟩;refine⟨_,rfl,?_⟩) | ((with_reducible refine bg (f:=48) rfl ?_);refine be (some 11) rfl rfl Tryz.func48 (by kernel_rfl) rfl #[.int .i64 a0] rfl (by (try simp only [My,Mz,MA]);first | rfl ) ?_;(with_reducible refine (aX.calls k a0 t379 _ A3.out).mono ?_);rintro e w6 ⟨v380,rfl,ho0,hb⟩;refine⟨_,rfl,?_⟩;have n0_:=Mw (Kd.fz ho0 (eL (by repeat (first | (with_reducible first | exact HB.out | apply au ) ))));have n1_:=Mw (bo (by repeat (first | (with_reducible first | exact HB.out | apply au ) )) hb);clear HB;have HO381:=n0_;have HB:=n1_;clear n0_ n1_;(try clear hb);   (try clear ho0)) | ((with_reducible refine de (N:=13) rfl ?_);refine Kd.vY (Kd.slice 4 Kd.bool) _ 45 rfl (N:=13) rfl 22 _ _ rfl t378 rfl rfl Tryz.underlying22 (.slice none 0 0) 24 yk rfl (by decide) (by omega) [] (ok:=fun _=>True) (okp:=fun _=>True) ⟨_,rfl,Kd.oq _ _ _ _ _⟩ (fun _ hk=>hk) trivial (of_decide_eq_true (by first | (with_reducible assumption) )) (Nat.le_trans (MF _ (of_decide_eq_true (by first | (with_reducible assumption) ):t378.toNat<=11728124029610)) (by omega)) (Below.refl _ _) (MB _) ?_;intro v383 w7 ho8 hb hg_ hnew_;clear hg_ hnew_;(rw [<- Ny382.out] at ho8);have n0_:=Mw (Kd.eC (by (with_reducible repeat (apply Kd.cG));exact HO381.out) hb);have n1_:=Mw (Kd.vU ho8 (eL (by repeat (first | (with_reducible first | exact HB.out ) ))));have n2_:=Mw (bo (by repeat (first | (with_reducible first | exact HB.out ) )) hb);clear HO381;clear HB;have HO381:=n0_;have HO384:=n1_;have HB:=n2_;clear n0_ n1_ n2_;clear hb ho8;obtain⟨Ao9,co9,eo9⟩:=Kd.vX HO384.out;subst eo9))
 go_loopg [16] k (fun kq v16 w'=>∃ (x5_1:List (List Bool)) (x16_1:Int),v16=.int .i64 x16_1/\Aside0 (aY.l0 kq a0 t378 t379 x5_1 (y382.length:Int) x16_1=some r)/\Aside0 (kq<=k)/\Aside0 (Kd.R (Kd.int .i64) 3 w' w.heap.size (fun _=>True) v380 t379)/\Aside0 (Kd.S (Kd.slice 4 Kd.bool) 45 w' w.heap.size (fun _=>True) (.slice Ao9 y382.length co9) x5_1)/\Aside0 (Below w.heap.size w w'))
 case atStart=>exact⟨(y382),(0),rfl,H',⟨MB _⟩,⟨by (with_reducible repeat (apply Kd.cG));exact HO381.out⟩,⟨by (with_reducible repeat (apply Kd.ej));exact HO384.out⟩,⟨by repeat (first | (with_reducible first | exact HB.out ) )⟩⟩
 case round=>
  clear H' c4b0 c4b1 c5b0 c5b1;obtain⟨x5_1,x16_1,rfl,HA,HK1,HO_4,HO_5,HB⟩:=hrel;have hl5_1:=(Kd.jo HO_5.out).1;rw [hl5_1] at HO_5
  (try simp only [hl5_1])
  cases gk with
  | zero=>exact absurd HA.out (by simp [aY.l0])
  | succ k1=>
   have H:=HA.out;clear HA;simp only [aY.l0] at H;by_cases c10:x16_1<(y382.length:Int);rotate_left
   ·rw [if_neg c10] at H;have c10b0:=decide_eq_false c10;have c10b9:decide (x16_1<(x5_1.length:Int))=false:=by first | (have e_:=hl5_1;first | (rw [<- e_];exact c10b0) )
    clear c10;obtain rfl:=Option.some.inj H
    go_wp2
    go_ret
    exact⟨_,by first | rfl ,by (with_reducible repeat (apply Kd.ej));exact HO_5.out,by repeat (first | (with_reducible first | exact HB.out ) )⟩
   rw [if_pos c10] at H;have c10b0:=decide_eq_true c10;clear c10;obtain⟨c11,H⟩:=bE H;have c11b0:=eq_true c11;have c11b1:=decide_eq_true c11;clear c11;obtain⟨c12,H⟩:=bE H;have c12b0:=eq_true c12;have c12b1:=decide_eq_true c12;clear c12;obtain⟨y385,hy385⟩:∃ y_:List Bool,y_=(MC (t378:Int).toNat false):=⟨_,rfl⟩;replace H:(if 0<=x16_1 then (if x16_1<(x5_1.length:Int) then ((some (x5_1.set (x16_1:Int).toNat y385:List (List Bool))).bind fun y388=>(aY.l1 k1 a0 t378 t379 y388 x16_1 (y382.length:Int) x16_1 ((aV y388 x16_1).length:Int) 0)) else (none)) else (none))=some r:=by first | (rw [hy385];with_reducible exact H)
   have Ny385:=Mw hy385;clear hy385;obtain⟨c13,H⟩:=bE H;have c13b0:=decide_eq_true c13;clear c13;obtain⟨c14,H⟩:=bE H;have c14b0:=decide_eq_true c14;clear c14;obtain⟨y388,hy388⟩:∃ y_:List (List Bool),y_=(x5_1.set (x16_1:Int).toNat y385):=⟨_,rfl⟩;replace H:(aY.l1 k1 a0 t378 t379 y388 x16_1 (y382.length:Int) x16_1 ((aV y388 x16_1).length:Int) 0)=some r:=by first | (have H2_:=(Option.bind_some _ _).symm.trans H;rw [hy388];with_reducible exact H2_)
   have Ny388:=Mw hy388;clear hy388;have H':=Mw H;clear H
   go_wp2_with (first | ((with_reducible refine de (N:=22) rfl ?_);refine Kd.pO Kd.bool _ 4 rfl (N:=22) rfl 45 _ _ rfl t378 rfl rfl Tryz.underlying45 (.bool false) 1 yj rfl (by decide) (by omega) false (ok:=fun _=>True) (okp:=fun _=>True) rfl (fun _ hk=>hk) trivial (of_decide_eq_true (by first | (with_reducible assumption) )) (Nat.le_trans (MF _ (of_decide_eq_true (by first | (with_reducible assumption) ):t378.toNat<=281474976710656)) (by omega)) (Below.refl _ _) (MB _) ?_;intro v386 w16 ho17 hb hg_ hnew_;clear hg_ hnew_;(rw [<- Ny385.out] at ho17);have n0_:=Mw (Kd.eC (by (with_reducible repeat (apply Kd.cG));exact HO_4.out) hb);have n1_:=Mw (Kd.vV (by (with_reducible repeat (apply Kd.ej));exact HO_5.out) (Kd.vp ho17) hb);have n2_:=Mw (Kd.fz ho17 (eL (by repeat (first | (with_reducible first | exact HB.out ) ))));have n3_:=Mw (bo (by repeat (first | (with_reducible first | exact HB.out ) )) hb);clear HO_4;clear HO_5;clear HB;have HO_4:=n0_;have HO_5:=n1_;have HO387:=n2_;have HB:=n3_;clear n0_ n1_ n2_ n3_;clear hb ho17;have p15:0<=(x16_1:Int):=of_decide_eq_true (by first | (with_reducible assumption) );have q15:(x16_1:Int)<((x5_1.length:Int):Int):=of_decide_eq_true (by first | (with_reducible assumption) );obtain⟨go15,co15,eo15,gb15,gl15,cl15,HG15⟩:=Kd.vW HO_5.out (by omega);(cases eo15);have GB15:=Mw gb15;have GG15:=Mw HG15;clear gb15 gl15 HG15;obtain⟨_,ce15,hcl15,hM15,hcc15,hfr15,_,_⟩:=Kd.p9 HO_5.out [] (x16_1:Int) p15 q15;obtain⟨ve15_0,rfl,ge15_0⟩:=hM15;have hx15_0:=hcc15 0 _ rfl;have hf15_0:=hfr15 0;(try simp only [show ((Kd.slice 4 Kd.bool)).sz=1 from rfl,MD,ME] at hx15_0);(try simp only [show ((Kd.slice 4 Kd.bool)).sz=1 from rfl,MD,ME] at hf15_0);clear hcl15 hcc15 hfr15; replace p15:=eq_true p15;replace q15:=eq_true q15;have n_:=Mw (Kd.oD (ok':=(fun k_=>some k_≠(v386:Value).ownBlock)) HO_5.out (fun k_ hk=>hk.2));clear HO_5;have HO_5:=n_;clear n_;have HX18:=Mw (show Kd.S (Kd.slice 4 Kd.bool) 45 w16 w.heap.size (fun k_=>((fun _=>True)) k_/\¬ ((fun k_=>some k_=(v386:Value).ownBlock)) k_) (.slice (some ⟨go15,0,none⟩) x5_1.length co9) x5_1 from (by (with_reducible repeat (apply Kd.ej));exact Kd.oD HO_5.out (fun k_ hk=>⟨trivial,fun e_=>hk e_⟩)));obtain⟨oki18,ce18,hcl18,hM18,hcc18,hfr18,hoki18,hH18⟩:=Kd.p9 HX18.out [] (x16_1:Int) (of_decide_eq_true (by first | (with_reducible assumption) )) (by have h_:(x16_1:Int)<((x5_1.length:Int):Int):=of_decide_eq_true (by first | (with_reducible assumption) );first | exact h_ );obtain⟨ve18_0,rfl,ge18_0⟩:=hM18;have HP18:=Kd.wg hH18 (of_decide_eq_true (by first | (with_reducible assumption) )) (by have h_:(x16_1:Int)<((x5_1.length:Int):Int):=of_decide_eq_true (by first | (with_reducible assumption) );first | exact h_ ) (seg:=[v386]) (j:=0) (show 1<=1 from by decide) (x':=y385) (Kd.ow (Kd.eK (Kd.vT rfl (Kd.eK (ok':=fun k_=>((fun _=>True)) k_/\k_≠go15) (Kd.pP (HO387.out) (Kd.m8 HO_5.out) (by decide)) (fun k_ hk=>⟨trivial,fun e_=>(hk.2) (by rw [e_];rfl)⟩))) (fun _ h_=>Or.inr (h_)))) (fun _ hk=>hk) (fun k_ hk_=>((Kd.eK (ok':=fun k_=>((fun _=>True)) k_/\k_≠go15) (Kd.pP (HO387.out) (Kd.m8 HO_5.out) (by decide)) (fun k_ hk=>⟨trivial,fun e_=>(hk.2) (by rw [e_];rfl)⟩))).1 k_ hk_.symm);have hx18_0:=hcc18 0 _ rfl;(try simp only [show ((Kd.slice 4 Kd.bool)).sz=1 from rfl,MD,ME] at hx18_0);have hf18_0:=hfr18 0;(try simp only [show ((Kd.slice 4 Kd.bool)).sz=1 from rfl,MD,ME] at hf18_0);clear hcl18 hcc18 hfr18 hoki18 hH18; (try simp only [show ((Kd.slice 4 Kd.bool)).sz=1 from rfl,MD,ME] at HP18)) | ((with_reducible refine pU (t:=45) (p:=23) rfl ?_);refine pT (t:=45) (p:=23) (v:=?vo_w19) (w1:=(w16.setCell ⟨go15,(x16_1:Int).toNat,none⟩ (v386))) ?hg ?ho ?hn ?hr ?_;(case ho=>rfl);(case hg=>rfl);(case hn=>rfl);(case hr=>first | (obtain⟨Av_,cv_,ev_⟩:=Kd.jP HO387.out;subst ev_;first | (go_simp;done) ));intro w19 hw;have hg:w16.grownBy w19 (some go15):=(by rw [hw];exact HP18.2);have hp_:Kd.S (Kd.slice 4 Kd.bool) 45 w19 w.heap.size (fun _=>True) (.slice (some ⟨go15,0,none⟩) x5_1.length co9) y388:=(by rw [hw,Ny388.out];exact HP18.1);clear HP18;have n0_:=Mw (Kd.vD (v:=(.slice (some ⟨go15,0,none⟩) x5_1.length co9)) (by (with_reducible repeat (apply Kd.cG));exact HO_4.out) (Kd.m8 HO_5.out) (by decide) hg);have n1_:=Mw (hp_);have n2_:=Mw ((by rw [hw];exact gJ (HB.out) GB15.out:Below w.heap.size w w19));clear HO_4;clear HO_5;clear HB;clear HO387;have HO_4:=n0_;have HO_5:=n1_;have HB:=n2_;clear n0_ n1_ n2_;clear hg hw hp_;have p389:0<=(x16_1:Int):=of_decide_eq_true (by first | (with_reducible assumption) );have q389:x16_1<(y388.length:Int):=(by have h_:(x16_1:Int)<((x5_1.length:Int):Int):=of_decide_eq_true (by first | (with_reducible assumption) );first | (have e_:=(Kd.jo HO_5.out).1;omega) );have ql389:((x16_1:Int)<((x5_1.length:Int):Int))=True:=eq_true (of_decide_eq_true (by first | (with_reducible assumption) ));obtain⟨ad389,A389_0,c389_0,e389,hx389_0,hl389_0,hi389_0⟩:=oV (Kd.jo HO_5.out).2.2 x16_1 p389 q389;obtain rfl:(⟨go15,0,none⟩:Addr)=ad389:=(by injection e389);obtain⟨ce389,hce389,hMe389,hcc389⟩:=Kd.oF HO_5.out [] x16_1 p389 (by first | exact of_decide_eq_true (by first | (with_reducible assumption) ) );obtain⟨ve389_0,rfl,ge389_0⟩:=hMe389;have hv389_0:=hcc389 0 _ rfl;rw [ME,show ((Kd.slice 4 Kd.bool)).sz=1 from rfl,MD] at hv389_0;replace hv389_0:=Option.some.inj (hv389_0.symm.trans hx389_0);rw [hv389_0] at ge389_0;have HL389_0:=Mw (show Kd.R Kd.bool 4 _ _ _ _ (aV y388 x16_1) from ge389_0);clear hv389_0 ge389_0;have HX389_0:=Mw hx389_0;clear hcc389 hce389;(simp only [iu] at hx389_0);have HR389_0:=Mw hi389_0;have HC389_0:=Mw hl389_0;clear hi389_0 hl389_0;replace p389:=eq_true p389;replace q389:=eq_true q389))
   go_loopg [29] k1 (fun kq v29 w'=>∃ (x5_2:List (List Bool)) (x29_2:Int),v29=.int .i64 x29_2/\Aside0 (aY.l1 kq a0 t378 t379 x5_2 x16_1 (y382.length:Int) x16_1 ((aV y388 x16_1).length:Int) x29_2=some r)/\Aside0 (kq<=k1)/\Aside0 (Kd.R (Kd.int .i64) 3 w' w.heap.size (fun _=>True) v380 t379)/\Aside0 (Kd.S (Kd.slice 4 Kd.bool) 45 w' w.heap.size (fun _=>True) (.slice (some ⟨go15,0,none⟩) x5_1.length co9) x5_2)/\Aside0 (Below w.heap.size w w'))
   case atStart=>exact⟨(y388),(0),rfl,H',⟨MB _⟩,⟨by  (with_reducible repeat (apply Kd.cG));exact HO_4.out⟩,⟨by  (with_reducible repeat (apply Kd.ej));exact HO_5.out⟩,⟨by repeat (first | (with_reducible first | exact HB.out ) )⟩⟩
   case round=>
    clear H' c10b0 c11b0 c11b1 c12b0 c12b1 c13b0 c14b0 p15 q15 hx15_0 hx18_0 hx389_0 p389 q389;obtain⟨x5_2,x29_2,rfl,HA,HK2,HO_4,HO_5,HB⟩:=hrel;have hl5_2:=(Kd.jo HO_5.out).1;rw [hl5_2] at HO_5
    (try simp only [hl5_2])
    cases gk with
    | zero=>exact absurd HA.out (by simp [aY.l1])
    | succ k2=>
     have H:=HA.out;clear HA;simp only [aY.l1] at H;by_cases c20:x29_2<((aV y388 x16_1).length:Int);rotate_left
     ·rw [if_neg c20] at H;have c20b0:=decide_eq_false c20;clear c20;have H':=Mw H;clear H
      go_wp2
      (try simp only [<- hl5_1,<- hl5_2])
      go_roundg k2
      case measure=>have:=HK1.out;have:=HK2.out;omega
      case rel=>exact⟨(x5_2),(wrap64 (x16_1+1)),rfl,H',⟨by have:=HK1.out;have:=HK2.out;omega⟩,⟨by   (with_reducible repeat (apply Kd.cG));exact HO_4.out⟩,⟨by (try simp only [hl5_1]);(try simp only [hl5_2]);(with_reducible repeat (apply Kd.ej));exact HO_5.out⟩,⟨by repeat (first | (with_reducible first | exact HB.out ) )⟩⟩
     rw [if_pos c20] at H;have c20b0:=decide_eq_true c20;clear c20;obtain⟨c21,H⟩:=bE H;have c21b0:=decide_eq_true c21;clear c21;obtain⟨c22,H⟩:=bE H;have c22b0:=decide_eq_true c22;clear c22;obtain⟨t391,A23,H⟩:=dE H;obtain⟨c24,H⟩:=bE H;have c24b0:=decide_eq_true c24;clear c24;obtain⟨c25,H⟩:=bE H;have c25b0:=decide_eq_true c25;clear c25;obtain⟨y392,hy392⟩:∃ y_:List Bool,y_=((aV x5_2 x16_1).set (x29_2:Int).toNat t391):=⟨_,rfl⟩;replace H:(aY.l1 k2 a0 t378 t379 (x5_2.set (x16_1:Int).toNat y392) x16_1 (y382.length:Int) x16_1 ((aV y388 x16_1).length:Int) (wrap64 (x29_2+1)))=some r:=by first | (rw [hy392];with_reducible exact H)
     have Ny392:=Mw hy392;clear hy392;obtain⟨y394,hy394⟩:∃ y_:List (List Bool),y_=(x5_2.set (x16_1:Int).toNat y392):=⟨_,rfl⟩;replace H:(aY.l1 k2 a0 t378 t379 y394 x16_1 (y382.length:Int) x16_1 ((aV y388 x16_1).length:Int) (wrap64 (x29_2+1)))=some r:=by first | (rw [hy394];with_reducible exact H)
     have Ny394:=Mw hy394;clear hy394;have H':=Mw H;clear H
     try go_wp2
     replace HO_4:=Mw (Kd.cG HO_4.out);replace HO_5:=Mw (Kd.ej HO_5.out);replace HB:=Mw (bC HB.out);have p390:0<=(x16_1:Int):=of_decide_eq_true (by first | (with_reducible assumption) );have q390:x16_1<(x5_2.length:Int):=of_decide_eq_true (by first | (with_reducible assumption) );obtain⟨ad390,A390_0,c390_0,e390,hx390_0,hl390_0,hi390_0⟩:=oV (Kd.jo HO_5.out).2.2 x16_1 p390 q390;obtain rfl:(⟨go15,0,none⟩:Addr)=ad390:=(by injection e390);obtain⟨ce390,hce390,hMe390,hcc390⟩:=Kd.oF HO_5.out [] x16_1 p390 (by first | exact q390 );obtain⟨ve390_0,rfl,ge390_0⟩:=hMe390;have hv390_0:=hcc390 0 _ rfl;rw [ME,show ((Kd.slice 4 Kd.bool)).sz=1 from rfl,MD] at hv390_0;replace hv390_0:=Option.some.inj (hv390_0.symm.trans hx390_0);rw [hv390_0] at ge390_0;have HL390_0:=Mw (show Kd.R Kd.bool 4 _ _ _ _ (aV x5_2 x16_1) from ge390_0);clear hv390_0 ge390_0;have HX390_0:=Mw hx390_0;clear hcc390 hce390
     (simp only [iu] at hx390_0)
     have HR390_0:=Mw hi390_0;have HC390_0:=Mw hl390_0;clear hi390_0 hl390_0;replace p390:=eq_true p390;replace q390:=eq_true q390;obtain⟨Ao28,co28,eo28⟩:=Kd.jP HO_4.out
     (subst eo28)
     refine ji (n:=12) (S:=fun w'=>w'.cell? ⟨go15,(x16_1).toNat,none⟩=some (.slice A390_0 (aV x5_2 x16_1).length c390_0)) (ds:=[11]) #[false,false,false,false,false,false,false,false,false,false,false,false] (by kernel_rfl) rfl rfl (hx390_0) (fun hHeld=>?_);refine jn aY.tab11 aY.bits11 (fun HT_ HW_=>?_);generalize wr.drew=w27 at HO_4 HO_5 HB HL390_0 HR390_0 HX390_0 hx390_0 hHeld ⊢;refine pu_ 0 32 HT_ ?_;refine pu_ 1 33 HT_ ?_;refine pu_ 2 34 HT_ ?_;refine pu_ 4 36 HT_ ?_;refine pu_ 5 37 HT_ ?_;refine pu_ 6 38 HT_ ?_;refine pu_ 7 39 HT_ ?_;refine pu_ 8 40 HT_ ?_;refine ta_ 3 35 HT_ HW_ hHeld ?_;refine hJ (i:=9) (N:=some 41) #[true,true,true,true,true,true,true,true,true,true,false,false] rfl rfl (dJ HT_.out (by kernel_rfl)) (by decide) (fun K hK=>?_);refine ia Tryz.func49 (by kernel_rfl) rfl #[.int .i64 a0,.slice Ao28 t379.length co28,.int .i64 x16_1,.int .i64 x29_2] (by rfl) rfl rfl (by (try simp only [My,Mz,MA]);first | rfl ) ?_
     with_reducible refine (az.calls k2 a0 _ _ t379 x16_1 x29_2 t391 _ ?side1 ?side2 A23.out).mono ?_
     (case side1=>repeat (exact (Kd.fi HO_4.out).2.2))
     (case side2=>exact (Kd.fi HO_4.out).2.1)
     rintro e w29 ⟨rfl,hb⟩;have HS0_:=(hb.cell (World.block_lt_of_cell? _ _ (hHeld))).trans (hHeld);refine⟨_,rfl,?_⟩;replace HO_4:=Mw (Kd.eC (by (with_reducible repeat (apply Kd.cG));exact HO_4.out) hb)
     replace HO_5:=Mw (Kd.oE (by (with_reducible repeat (apply Kd.ej));exact HO_5.out) hb)
     replace HL390_0:=Mw (Kd.eC (by (with_reducible repeat (apply Kd.cG));exact HL390_0.out) hb)
     replace HR390_0:=Mw (Kd.bB (by repeat (first | (with_reducible exact HR390_0.out) )) hb);replace HX390_0:=Mw (g8 hb HX390_0.out);replace HB:=Mw (bo (by repeat (first | (with_reducible first | exact HB.out ) )) hb);clear hb;have p26:0<=(x29_2:Int):=of_decide_eq_true (by first | (with_reducible assumption) );have q26:(x29_2:Int)<(((aV x5_2 x16_1).length:Int):Int):=of_decide_eq_true (by first | (with_reducible assumption) );obtain⟨go26,co26,eo26,gb26,gl26,cl26,HG26⟩:=Kd.mr HL390_0.out (by omega)
     (cases eo26)
     have GB26:=Mw gb26;have GG26:=Mw HG26;clear gb26 gl26 HG26;obtain⟨hx26_0,hf26_0⟩:=Kd.ms false HL390_0.out (x29_2:Int) p26 q26;replace p26:=eq_true p26;replace q26:=eq_true q26;have hq30:(x16_1:Int)<(x5_2.length:Int):=(by have h_:(x16_1:Int)<((x5_2.length:Int):Int):=of_decide_eq_true (by first | (with_reducible assumption) );first | exact h_ )
     obtain⟨oki30,ce30,hcl30,hM30,hcc30,hok30,hbk30⟩:=Kd.sO HO_5.out [] (x16_1:Int) (of_decide_eq_true (by first | (with_reducible assumption) )) hq30;obtain⟨ve30_0,rfl,ge30_0⟩:=hM30;have hv30:=hcc30 0 _ rfl;rw [ME,show ((Kd.slice 4 Kd.bool)).sz=1 from rfl,MD] at hv30;replace hv30:=Option.some.inj (hv30.symm.trans HX390_0.out);subst hv30;clear hcc30 hcl30;replace ge30_0:=(show Kd.R Kd.bool 4 _ _ _ _ (aV x5_2 x16_1) from ge30_0);have HP30:=Kd.oz ge30_0 (x29_2:Int) t391;rw [<- Ny392.out] at HP30;have HS30:=hbk30 HP30.2 (fun k_ e_=>by injection e_ with e_;subst e_;exact ge30_0.1 _ rfl) (x':=y392) (Kd.ow HP30.1)
     rw [<- Ny394.out] at HS30;have HQ30:=Mw HS30;clear HP30 HS30 hbk30 hok30;refine hK.out _ _ (HS0_) (fun hHeld=>?_);clear hK K;refine no_ ?_;refine pu_ 10 42 HT_ ?_;refine jj (i:=11) (N:=none) #[true,true,true,true,true,true,true,true,true,true,true,true] rfl rfl (dJ HT_.out (by kernel_rfl)) (by decide) (fun K hK=>?_);refine jl (w1:=?_) (by rfl) rfl ?_ ?_;rotate_left
     ·go_simp
      rfl
     refine hK.out _ _ ?_;clear hK K;refine jk (jm HT_.out (by kernel_rfl)) ?_
     try go_wp2
     (try simp only [<- hl5_2])
     go_roundg k2
     case measure=>have:=HK1.out;have:=HK2.out;omega
     case rel=>exact⟨(y394),(wrap64 (x29_2+1)),rfl,H',⟨by have:=HK1.out;have:=HK2.out;omega⟩,⟨by   (with_reducible repeat (apply Kd.cG));exact Kd.eK (Kd.sA (p:=⟨go26,(x29_2:Int).toNat,none⟩) (Kd.sC HO_4.out GG26.out (by decide)) (fun _ hk=>hk.2) (.bool t391)) (fun _ hk=>trivial)⟩,⟨by  (try simp only [hl5_2]);(with_reducible repeat (apply Kd.ej));exact HQ30.out⟩,⟨by repeat (first | (with_reducible first | exact HB.out | refine gJ ?_ GB26.out) )⟩⟩
end Go.Proofs.YtgccjgpdjkhpdaaGreat.F
namespace Go.Proofs.YtgccjgpdjkhpdaaGreat.F
open Go.RowKit Go.Proofs.YtgccjgpdjkhpdaaGreatW.PrintWords Go.Proofs.YtgccjgpdjkhpdaaGreatW.PrintLast Go.Proofs.YtgccjgpdjkhpdaaGreatW.PrintMore
attribute [local go_sem] fB fC fD fE fF fG fH fI
set_option linter.unusedVariables false
set_option linter.unusedSimpArgs false
def jJ.f (k:Nat)(a0:Int):Option (Int):=(dI.f a0).bind fun t347=>((aX.f k a0).bind fun t348=>(if a0≥7 then (if (t348.length:Int)>0 then (some (wrap64 ((wrap64 ((wrap64 ((wrap64 ((wrap64 ((wrap64 (t347*t347))-192))-(wrap64 (2*(wrap64 (t347-16))))))-31))-36))-(wrap64 ((wrap64 (25*(wrap64 ((wrap64 ((t348.length:Int)*(t348.length:Int)))-3))))-(wrap64 (10*(wrap64 ((t348.length:Int)-2))))))))) else (some (wrap64 ((wrap64 ((wrap64 ((wrap64 ((wrap64 (t347*t347))-192))-(wrap64 (2*(wrap64 (t347-16))))))-31))-36)))) else (if (t348.length:Int)>0 then (some (wrap64 ((wrap64 ((wrap64 ((wrap64 ((wrap64 (t347*t347))-192))-(wrap64 (2*(wrap64 (t347-16))))))-31))-(wrap64 ((wrap64 (25*(wrap64 ((wrap64 ((t348.length:Int)*(t348.length:Int)))-3))))-(wrap64 (10*(wrap64 ((t348.length:Int)-2))))))))) else (some (wrap64 ((wrap64 ((wrap64 ((wrap64 (t347*t347))-192))-(wrap64 (2*(wrap64 (t347-16))))))-31))))))
theorem jJ.mono:∀ a0 k,ae (jJ.f k a0) (jJ.f (k+1) a0):=by
 intro a0 k;unfold jJ.f
 repeat' first
   | (with_reducible exact aX.mono _ _)
   | (with_reducible exact ae.refl _)
   | (with_reducible refine ae.bind ?_ (fun _=>?_))
set_option maxHeartbeats 8000000 in
set_option maxRecDepth 100000 in
theorem jJ.calls (k:Nat)(a0:Int)(r:Int)(w:World)(h:jJ.f k a0=some r) :
  Calls Tryz.prog 102 #[.int .i64 a0] w fun e w'=>e=.returned (.int .i64 r)/\Below w.heap.size w w':=by
 have HB:=Mw (Below.refl w.heap.size w);have H:((dI.f a0).bind fun t347=>((aX.f k a0).bind fun t348=>(if a0≥7 then (if (t348.length:Int)>0 then (some (wrap64 ((wrap64 ((wrap64 ((wrap64 ((wrap64 ((wrap64 (t347*t347))-192))-(wrap64 (2*(wrap64 (t347-16))))))-31))-36))-(wrap64 ((wrap64 (25*(wrap64 ((wrap64 ((t348.length:Int)*(t348.length:Int)))-3))))-(wrap64 (10*(wrap64 ((t348.length:Int)-2))))))))) else (some (wrap64 ((wrap64 ((wrap64 ((wrap64 ((wrap64 (t347*t347))-192))-(wrap64 (2*(wrap64 (t347-16))))))-31))-36)))) else (if (t348.length:Int)>0 then (some (wrap64 ((wrap64 ((wrap64 ((wrap64 ((wrap64 (t347*t347))-192))-(wrap64 (2*(wrap64 (t347-16))))))-31))-(wrap64 ((wrap64 (25*(wrap64 ((wrap64 ((t348.length:Int)*(t348.length:Int)))-3))))-(wrap64 (10*(wrap64 ((t348.length:Int)-2))))))))) else (some (wrap64 ((wrap64 ((wrap64 ((wrap64 (t347*t347))-192))-(wrap64 (2*(wrap64 (t347-16))))))-31)))))))=some r:=h;clear h;obtain⟨t347,A2,H⟩:=dE H;obtain⟨t348,A3,H⟩:=dE H;by_cases c4:a0≥7
 ·rw [if_pos c4] at H;have c4b0:=decide_eq_true c4;clear c4;by_cases c5:(t348.length:Int)>0
  ·rw [if_pos c5] at H;have c5b0:=decide_eq_true c5;have c5b1:decide (0<t348.length)=true:=decide_eq_true (by omega);clear c5;obtain rfl:=Option.some.inj H
   go_enter Tryz.func102,Tryz.ntmps102
   go_wp2_with (first | ((with_reducible refine bg (f:=46) rfl ?_);refine be (some 7) rfl rfl Tryz.func46 (by kernel_rfl) rfl #[.int .i64 a0] rfl (by (try simp only [My,Mz,MA]);first | rfl ) ?_;(with_reducible refine (dI.calls a0 t347 _ A2.out).mono ?_);rintro e w' ⟨rfl,⟨nd,rfl⟩⟩;refine⟨_,rfl,?_⟩) | ((with_reducible refine bg (f:=48) rfl ?_);refine be (some 9) rfl rfl Tryz.func48 (by kernel_rfl) rfl #[.int .i64 a0] rfl (by (try simp only [My,Mz,MA]);first | rfl ) ?_;(with_reducible refine (aX.calls k a0 t348 _ A3.out).mono ?_);rintro e w6 ⟨v349,rfl,ho0,hb⟩;refine⟨_,rfl,?_⟩;have n0_:=Mw (Kd.fz ho0 (eL (by repeat (first | (with_reducible first | exact HB.out | apply au ) ))));have n1_:=Mw (bo (by repeat (first | (with_reducible first | exact HB.out | apply au ) )) hb);clear HB;have HO350:=n0_;have HB:=n1_;clear n0_ n1_;(try clear hb);   (try clear ho0);obtain⟨Ao7,co7,eo7⟩:=Kd.jP HO350.out;subst eo7))
   go_ret
   exact⟨by first | rfl ,by repeat (first | (with_reducible first | exact HB.out ) )⟩
  rw [if_neg c5] at H;have c5b0:=decide_eq_false c5;have c5b1:decide (0<t348.length)=false:=decide_eq_false (by omega);clear c5;obtain rfl:=Option.some.inj H
  go_enter Tryz.func102,Tryz.ntmps102
  go_wp2_with (first | ((with_reducible refine bg (f:=46) rfl ?_);refine be (some 7) rfl rfl Tryz.func46 (by kernel_rfl) rfl #[.int .i64 a0] rfl (by (try simp only [My,Mz,MA]);first | rfl ) ?_;(with_reducible refine (dI.calls a0 t347 _ A2.out).mono ?_);rintro e w' ⟨rfl,⟨nd,rfl⟩⟩;refine⟨_,rfl,?_⟩) | ((with_reducible refine bg (f:=48) rfl ?_);refine be (some 9) rfl rfl Tryz.func48 (by kernel_rfl) rfl #[.int .i64 a0] rfl (by (try simp only [My,Mz,MA]);first | rfl ) ?_;(with_reducible refine (aX.calls k a0 t348 _ A3.out).mono ?_);rintro e w8 ⟨v349,rfl,ho0,hb⟩;refine⟨_,rfl,?_⟩;have n0_:=Mw (Kd.fz ho0 (eL (by repeat (first | (with_reducible first | exact HB.out | apply au ) ))));have n1_:=Mw (bo (by repeat (first | (with_reducible first | exact HB.out | apply au ) )) hb);clear HB;have HO350:=n0_;have HB:=n1_;clear n0_ n1_;(try clear hb);   (try clear ho0);obtain⟨Ao9,co9,eo9⟩:=Kd.jP HO350.out;subst eo9))
  go_ret
  exact⟨by first | rfl ,by repeat (first | (with_reducible first | exact HB.out ) )⟩
 rw [if_neg c4] at H;have c4b0:=decide_eq_false c4;clear c4;by_cases c10:(t348.length:Int)>0
 ·rw [if_pos c10] at H;have c10b0:=decide_eq_true c10;have c10b1:decide (0<t348.length)=true:=decide_eq_true (by omega);clear c10;obtain rfl:=Option.some.inj H
  go_enter Tryz.func102,Tryz.ntmps102
  go_wp2_with (first | ((with_reducible refine bg (f:=46) rfl ?_);refine be (some 7) rfl rfl Tryz.func46 (by kernel_rfl) rfl #[.int .i64 a0] rfl (by (try simp only [My,Mz,MA]);first | rfl ) ?_;(with_reducible refine (dI.calls a0 t347 _ A2.out).mono ?_);rintro e w' ⟨rfl,⟨nd,rfl⟩⟩;refine⟨_,rfl,?_⟩) | ((with_reducible refine bg (f:=48) rfl ?_);refine be (some 9) rfl rfl Tryz.func48 (by kernel_rfl) rfl #[.int .i64 a0] rfl (by (try simp only [My,Mz,MA]);first | rfl ) ?_;(with_reducible refine (aX.calls k a0 t348 _ A3.out).mono ?_);rintro e w11 ⟨v349,rfl,ho0,hb⟩;refine⟨_,rfl,?_⟩;have n0_:=Mw (Kd.fz ho0 (eL (by repeat (first | (with_reducible first | exact HB.out | apply au ) ))));have n1_:=Mw (bo (by repeat (first | (with_reducible first | exact HB.out | apply au ) )) hb);clear HB;have HO350:=n0_;have HB:=n1_;clear n0_ n1_;(try clear hb);   (try clear ho0);obtain⟨Ao12,co12,eo12⟩:=Kd.jP HO350.out;subst eo12))
  go_ret
  exact⟨by first | rfl ,by repeat (first | (with_reducible first | exact HB.out ) )⟩
 rw [if_neg c10] at H;have c10b0:=decide_eq_false c10;have c10b1:decide (0<t348.length)=false:=decide_eq_false (by omega);clear c10;obtain rfl:=Option.some.inj H
 go_enter Tryz.func102,Tryz.ntmps102
 go_wp2_with (first | ((with_reducible refine bg (f:=46) rfl ?_);refine be (some 7) rfl rfl Tryz.func46 (by kernel_rfl) rfl #[.int .i64 a0] rfl (by (try simp only [My,Mz,MA]);first | rfl ) ?_;(with_reducible refine (dI.calls a0 t347 _ A2.out).mono ?_);rintro e w' ⟨rfl,⟨nd,rfl⟩⟩;refine⟨_,rfl,?_⟩) | ((with_reducible refine bg (f:=48) rfl ?_);refine be (some 9) rfl rfl Tryz.func48 (by kernel_rfl) rfl #[.int .i64 a0] rfl (by (try simp only [My,Mz,MA]);first | rfl ) ?_;(with_reducible refine (aX.calls k a0 t348 _ A3.out).mono ?_);rintro e w13 ⟨v349,rfl,ho0,hb⟩;refine⟨_,rfl,?_⟩;have n0_:=Mw (Kd.fz ho0 (eL (by repeat (first | (with_reducible first | exact HB.out | apply au ) ))));have n1_:=Mw (bo (by repeat (first | (with_reducible first | exact HB.out | apply au ) )) hb);clear HB;have HO350:=n0_;have HB:=n1_;clear n0_ n1_;(try clear hb);   (try clear ho0);obtain⟨Ao14,co14,eo14⟩:=Kd.jP HO350.out;subst eo14))
 go_ret
 exact⟨by first | rfl ,by repeat (first | (with_reducible first | exact HB.out ) )⟩
def mc.f (k:Nat)(a0:Int):Option (Int):=(jJ.f k a0).bind fun t351=>(some (wrap64 (Mx t351 8)))
theorem mc.mono:∀ a0 k,ae (mc.f k a0) (mc.f (k+1) a0):=by
 intro a0 k;unfold mc.f
 repeat' first
   | (with_reducible exact jJ.mono _ _)
   | (with_reducible exact ae.refl _)
   | (with_reducible exact ae.none _)
   | (with_reducible refine ae.ite ?_ ?_)
   | (with_reducible refine ae.bind ?_ (fun _=>?_))
   | exact jJ.mono _ _
   | exact ae.none _
   | refine ae.ite ?_ ?_
   | refine ae.bind ?_ (fun _=>?_)
set_option maxHeartbeats 8000000 in
set_option maxRecDepth 100000 in
theorem mc.calls (k:Nat)(a0:Int)(r:Int)(w:World)(h:mc.f k a0=some r) :
  Calls Tryz.prog 56 #[.int .i64 a0] w fun e w'=>e=.returned (.int .i64 r)/\Below w.heap.size w w':=by
 have HB:=Mw (Below.refl w.heap.size w);have H:((jJ.f k a0).bind fun t351=>(some (wrap64 (Mx t351 8))))=some r:=h;clear h;replace H:=Option.bind_eq_some_iff.mp H;obtain⟨t351,A20,H⟩:=H;replace H:(some (wrap64 (Mx t351 8)))=some r:=H;have A2:=Mw A20;clear A20;obtain rfl:=Option.some.inj H
 go_enter Tryz.func56,Tryz.ntmps56
 go_wp2_with (first | ((with_reducible refine bg (f:=102) rfl ?_);refine be (some 4) rfl rfl Tryz.func102 (by kernel_rfl) rfl #[.int .i64 a0] rfl (by (try simp only [My,Mz,MA]);first | done | rfl | (simp only [List.length_drop,List.length_take];rfl)) ?_;(with_reducible refine (jJ.calls k a0 t351 _ A2.out).mono ?_);rintro e w3 ⟨rfl,hb⟩;refine⟨_,rfl,?_⟩;have n0_:=Mw (bo (by repeat (first | (with_reducible first | exact HB.out | apply ai | apply au | apply bC) | exact HB.out)) hb);clear HB;have HB:=n0_;clear n0_;(try clear hb);(try clear hb2);(try clear hk);(try clear hi)))
 go_ret
 exact⟨by first | rfl | (simp [gT,gU]<;>rfl) | (simp [*,gT,gU]<;>rfl),by repeat (first | (with_reducible first | exact HB.out | apply ai | apply au | apply bC) | exact HB.out)⟩
end Go.Proofs.YtgccjgpdjkhpdaaGreat.F
