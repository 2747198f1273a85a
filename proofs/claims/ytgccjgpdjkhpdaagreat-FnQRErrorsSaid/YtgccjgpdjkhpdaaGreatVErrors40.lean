import Derived.Test.YtgccjgpdjkhpdaaGreatVErrors2
open Go.Proofs.YtgccjgpdjkhpdaaGreatW.PrintWords.Aside0 renaming mk→Mw
/-! Own texts of this claim, part 40. -/
namespace Go.Proofs.YtgccjgpdjkhpdaaGreat.F
open Go.RowKit Go.Proofs.YtgccjgpdjkhpdaaGreatW.PrintWords Go.Proofs.YtgccjgpdjkhpdaaGreatW.PrintLast Go.Proofs.YtgccjgpdjkhpdaaGreatW.PrintMore
attribute [local go_sem] fB fC fD fE fF fG fH fI
set_option linter.unusedVariables false
set_option linter.unusedSimpArgs false
mutual
def ez.l0:Nat->List (List Bool)->Int->List (List Bool)->Int->Int->Option ((List (List Bool)))
 | 0,_,_,_,_,_=>none
 | k+1,x0,x3,x4,x13,x14=>if x14<x13 then (if 0<=x3 then (if (x3:Int).toNat<=281474976710656 then (if 0<=x14 then (if x14<(x4.length:Int) then (ez.l1 k x0 x3 (x4.set (x14:Int).toNat (List.replicate (x3:Int).toNat false)) x14 0 x13 x14) else (none)) else (none)) else (none)) else (none)) else (some x4)
def ez.l1:Nat->List (List Bool)->Int->List (List Bool)->Int->Int->Int->Int->Option ((List (List Bool)))
 | 0,_,_,_,_,_,_,_=>none
 | k+1,x0,x3,x4,x5,x6,x13,x14=>if x6<x3 then (if 0<=x5 then (if x5<(x0.length:Int) then (if x6<((aV x0 x5).length:Int) then (if x5<(x4.length:Int) then (if 0<=x6 then (if x6<((aV x4 x5).length:Int) then (ez.l1 k x0 x3 (x4.set (x5:Int).toNat ((aV x4 x5).set (x6:Int).toNat (oo false (aV x0 x5) x6))) x5 (wrap64 (x6+1)) x13 x14) else (none)) else (none)) else (none)) else (ez.l0 k x0 x3 x4 x13 (wrap64 (x14+1)))) else (none)) else (none)) else (ez.l0 k x0 x3 x4 x13 (wrap64 (x14+1)))
end
def ez.f (k:Nat)(l0:List (List Bool)):Option ((List (List Bool))):=if 0<=(mn (l0.length:Int) 60) then (if (mn (l0.length:Int) 60:Int).toNat<=11728124029610 then ((some (List.replicate (mn (l0.length:Int) 60:Int).toNat []:List (List Bool))).bind fun y102=>(ez.l0 k l0 (mn (l0.length:Int) 60) y102 (y102.length:Int) 0)) else (none)) else (none)
theorem ez.mono_l:∀ k,(∀ y0 y1 y2 y3 y4,ae (ez.l0 k y0 y1 y2 y3 y4) (ez.l0 (k+1) y0 y1 y2 y3 y4))/\(∀ y0 y1 y2 y3 y4 y5 y6,ae (ez.l1 k y0 y1 y2 y3 y4 y5 y6) (ez.l1 (k+1) y0 y1 y2 y3 y4 y5 y6))
 | 0=>⟨fun _ _ _ _ _ r h=>by simp [ez.l0] at h,fun _ _ _ _ _ _ _ r h=>by simp [ez.l1] at h⟩
 | k+1=>by
  obtain⟨ih0,ih1⟩:=ez.mono_l k;refine⟨?_,?_⟩
  ·intro y0 y1 y2 y3 y4;unfold ez.l0
   repeat' first
   | (with_reducible exact ih1 _ _ _ _ _ _ _)
   | (with_reducible exact ae.refl _)
   | (with_reducible refine ae.ite ?_ ?_)
  intro y0 y1 y2 y3 y4 y5 y6;unfold ez.l1
  repeat' first
  | (with_reducible exact ih0 _ _ _ _ _)
  | (with_reducible exact ih1 _ _ _ _ _ _ _)
  | (with_reducible exact ae.refl _)
  | (with_reducible refine ae.ite ?_ ?_)
theorem ez.mono:∀ a0 k,ae (ez.f k a0) (ez.f (k+1) a0):=by
 intro a0 k;obtain⟨ih0,ih1⟩:=ez.mono_l k;unfold ez.f
 repeat' first
   | (with_reducible exact ih0 _ _ _ _ _)
   | (with_reducible exact ae.refl _)
   | (with_reducible refine ae.ite ?_ ?_)
   | (with_reducible refine ae.bind ?_ (fun _=>?_))
end Go.Proofs.YtgccjgpdjkhpdaaGreat.F
namespace Go.Proofs.YtgccjgpdjkhpdaaGreat.F
open Go.RowKit Go.Proofs.YtgccjgpdjkhpdaaGreatW.PrintWords Go.Proofs.YtgccjgpdjkhpdaaGreatW.PrintLast Go.Proofs.YtgccjgpdjkhpdaaGreatW.PrintMore
attribute [local go_sem] fB fC fD fE fF fG fH fI
set_option linter.unusedVariables false
set_option linter.unusedSimpArgs false
def pp.f (a0:Int):Option (Int):=some (wrap64 (1+(Int.tmod (wrap64 (a0)) 40)))
set_option maxHeartbeats 8000000 in
set_option maxRecDepth 100000 in
theorem pp.calls (a0:Int)(r:Int)(w:World)(h:pp.f a0=some r) :
  Calls Tryz.prog 11 #[.int .u8 a0] w fun e w'=>e=.returned (.int .i64 r)/\aj w w':=by
 have H:(some (wrap64 (1+(Int.tmod (wrap64 (a0)) 40))))=some r:=h;clear h;obtain rfl:=Option.some.inj H
 go_enter Tryz.func11,Tryz.ntmps11
 go_wp2
 go_ret
 exact⟨by first | rfl ,by repeat (first | exact aj.refl _ )⟩
def cd (w0 W:World)(g:Nat)(f0:Int)(f1:List (gv)):Prop:=∃ A1 c1,W.heap[g]? = some (.cells #[.int .i64 f0,.slice A1 f1.length c1] 224 (0,0))/\w0.heap.size<=g/\Kd.C yl w0 A1 f1.length f1
theorem cd.grown {w0 W:World}{g:Nat}{f0:Int}{f1:List (gv)}{W1:World}{row:Option Nat}(h:cd w0 W g f0 f1)(hw:W.grownBy W1 row)(hne:some g≠row):cd w0 W1 g f0 f1:=by
 obtain⟨A1,c1,hb,hg,hr1⟩:=h;exact⟨A1,c1,uW hb hw hne,hg,hr1⟩
theorem cd.fresh {w0 W:World}{g:Nat}{f0:Int}{f1:List (gv)}(h:cd w0 W g f0 f1):∀ k,W.heap.size<=k->k≠g:=by
 obtain⟨A1,c1,hb,hg,hr1⟩:=h;exact Kd.vH hb
theorem cd.kept {w0 W:World}{g:Nat}{f0:Int}{f1:List (gv)}{W1:World}{S:Nat->Prop}(h:cd w0 W g f0 f1)(hk:cj W W1 S)(hne:¬ S g):cd w0 W1 g f0 f1:=by
 obtain⟨A1,c1,hb,hg,hr1⟩:=h;exact⟨A1,c1,wj hb hk hne,hg,hr1⟩
theorem cd.below {w0 W:World}{g:Nat}{f0:Int}{f1:List (gv)}{W1:World}(h:cd w0 W g f0 f1)(hw:Below W.heap.size W W1):cd w0 W1 g f0 f1:=h.grown (sw hw none) (by simp)
theorem cd.alloc {w0 W:World}{g:Nat}{f0:Int}{f1:List (gv)}(h:cd w0 W g f0 f1)(o:Obj):cd w0 (W.alloc o) g f0 f1:=h.below (ai (Below.refl _ _) o)
theorem cd.drewN {w0 W:World}{g:Nat}{f0:Int}{f1:List (gv)}(h:cd w0 W g f0 f1)(m:Nat):cd w0 (W.drewN m) g f0 f1:=h
theorem cd.drew {w0 W:World}{g:Nat}{f0:Int}{f1:List (gv)}(h:cd w0 W g f0 f1):cd w0 W.drew g f0 f1:=h
theorem cd.at_ {w0 W:World}{g:Nat}{f0:Int}{f1:List (gv)}{w':World}{m:Nat}(hq:W.drewN m=w')(h:cd w0 W g f0 f1):cd w0 w' g f0 f1:=by subst hq;exact cd.drewN h m
theorem cd.own_ne {w0 W:World}{g:Nat}{f0:Int}{f1:List (gv)}{α:Type}{d:Kd α}{e:Nat}{base:Nat}{ok:Nat->Prop}{v:Value}{xs:List α}(h:cd w0 W g f0 f1)(ho:d.R e W base ok v xs)(ht:e≠224):some g≠v.ownBlock:=by
 obtain⟨A1,c1,hb,hg,hr1⟩:=h;exact Kd.vl ho hb ht
theorem cd.lt {w0 W:World}{g:Nat}{f0:Int}{f1:List (gv)}(h:cd w0 W g f0 f1):g<W.heap.size:=by
 obtain⟨A1,c1,hb,hg,hr1⟩:=h;exact ky hb
theorem cd.ge {w0 W:World}{g:Nat}{f0:Int}{f1:List (gv)}(h:cd w0 W g f0 f1):w0.heap.size<=g:=by
 obtain⟨A1,c1,hb,hg,hr1⟩:=h;exact hg
theorem cd.far {w0 W:World}{g:Nat}{f0:Int}{f1:List (gv)}{p:Addr}(h:cd w0 W g f0 f1)(hne:g≠p.block)(u:Value):cd w0 (W.setCell p u) g f0 f1:=by
 obtain⟨A1,c1,hb,hg,hr1⟩:=h;exact⟨A1,c1,sx hb hne u,hg,hr1⟩
def mP.f (a0_0:Int)(l0_1:List Int):Option (Bool):=if (l0_1.length:Int)>2147483647 then (some false) else (some true)
set_option maxHeartbeats 8000000 in
set_option maxRecDepth 100000 in
theorem mP.calls (a0_0:Int)(A0_1:Option Addr)(c0_1:Nat)(l0_1:List Int)(r:Bool)(w:World)(hr0_1:Kd.C (Kd.int .u8) w A0_1 l0_1.length l0_1)(hc0_1:l0_1.length<=c0_1)(h:mP.f a0_0 l0_1=some r) :
  Calls Tryz.prog 51 #[.agg #[.int .i64 a0_0,.slice A0_1 l0_1.length c0_1]] w fun e w'=>e=.returned (.bool r)/\Below w.heap.size w w':=by
 have hu98:=Tryz.underlying98;have HR0_1:=Mw hr0_1;have HC0_1:=Mw hc0_1;clear hr0_1 hc0_1;have HB:=Mw (Below.refl w.heap.size w);have H:(if (l0_1.length:Int)>2147483647 then (some false) else (some true))=some r:=h;clear h;by_cases c2:(l0_1.length:Int)>2147483647
 ·rw [if_pos c2] at H;have c2b0:decide (2147483647<(l0_1.length:Int))=true:=decide_eq_true c2;have c2b1:decide (2147483647<l0_1.length)=true:=decide_eq_true (by omega);clear c2;obtain rfl:=Option.some.inj H
  go_enter Tryz.func51,Tryz.ntmps51
  go_wp2_with (first | ((with_reducible refine de (N:=1) rfl ?_);refine pS ?hg (N:=1) ?hd (cs:=#[.int .i64 a0_0,.slice A0_1 l0_1.length c0_1]) (t:=98) ?hr ?_;(case hd=>rfl);(case hg=>rfl);(case hr=>first | (go_simp;done) | (go_simp;rfl));intro gb341 hg w3 hbox hb;have n0_:=Mw (bo (by repeat (first | (with_reducible first | exact HB.out | apply ai | apply au | apply bC) | exact HB.out)) hb);have n1_:=Mw (hbox);have n2_:=Mw ((by rw [hg];exact (eL (by repeat (first | (with_reducible first | exact HB.out | apply ai | apply au | apply bC) | exact HB.out))):w.heap.size<=gb341));have n3_:=Mw ((by rw [hg];exact (eL (by repeat (first | (with_reducible first | exact HB.out | apply ai | apply au | apply bC) | exact HB.out))):w.heap.size<=gb341));clear HB;have HB:=n0_;have BK341:=n1_;have GW341:=n2_;have GE341:=n3_;clear n0_ n1_ n2_ n3_;clear hb hbox hg;have hcz4_0:w3.cell? ⟨gb341,0,none⟩=some (.int .i64 a0_0):=(kA BK341.out 0).trans rfl;have hcz4_1:w3.cell? ⟨gb341,1,none⟩=some (.slice A0_1 l0_1.length c0_1):=(kA BK341.out 1).trans rfl;have hfz4_0:=jO BK341.out 0;have hfz4_1:=jO BK341.out 1))
  go_ret
  exact⟨by first | rfl | (simp [gT,gU]<;>rfl) | (simp [*,gT,gU]<;>rfl),by repeat (first | (with_reducible first | exact HB.out | apply ai | apply au | apply bC | refine gJ ?_ GE341.out) | exact HB.out)⟩
 rw [if_neg c2] at H;have c2b0:decide (2147483647<(l0_1.length:Int))=false:=decide_eq_false c2;have c2b1:decide (2147483647<l0_1.length)=false:=decide_eq_false (by omega);clear c2;obtain rfl:=Option.some.inj H
 go_enter Tryz.func51,Tryz.ntmps51
 go_wp2_with (first | ((with_reducible refine de (N:=1) rfl ?_);refine pS ?hg (N:=1) ?hd (cs:=#[.int .i64 a0_0,.slice A0_1 l0_1.length c0_1]) (t:=98) ?hr ?_;(case hd=>rfl);(case hg=>rfl);(case hr=>first | (go_simp;done) | (go_simp;rfl));intro gb341 hg w5 hbox hb;have n0_:=Mw (bo (by repeat (first | (with_reducible first | exact HB.out | apply ai | apply au | apply bC) | exact HB.out)) hb);have n1_:=Mw (hbox);have n2_:=Mw ((by rw [hg];exact (eL (by repeat (first | (with_reducible first | exact HB.out | apply ai | apply au | apply bC) | exact HB.out))):w.heap.size<=gb341));have n3_:=Mw ((by rw [hg];exact (eL (by repeat (first | (with_reducible first | exact HB.out | apply ai | apply au | apply bC) | exact HB.out))):w.heap.size<=gb341));clear HB;have HB:=n0_;have BK341:=n1_;have GW341:=n2_;have GE341:=n3_;clear n0_ n1_ n2_ n3_;clear hb hbox hg;have hcz6_0:w5.cell? ⟨gb341,0,none⟩=some (.int .i64 a0_0):=(kA BK341.out 0).trans rfl;have hcz6_1:w5.cell? ⟨gb341,1,none⟩=some (.slice A0_1 l0_1.length c0_1):=(kA BK341.out 1).trans rfl;have hfz6_0:=jO BK341.out 0;have hfz6_1:=jO BK341.out 1))
 go_ret
 exact⟨by first | rfl | (simp [gT,gU]<;>rfl) | (simp [*,gT,gU]<;>rfl),by repeat (first | (with_reducible first | exact HB.out | apply ai | apply au | apply bC | refine gJ ?_ GE341.out) | exact HB.out)⟩
def cQ.l0:Nat->List (bl)->Int->Int->Option (Bool)
 | 0,_,_,_=>none
 | k+1,x8,x9,x10=>if x10<x9 then (if 0<=x10 then (if x10<(x8.length:Int) then ((mP.f ((cC x8 x10).f0) ((cC x8 x10).f1)).bind fun t344=>(if t344=true then (cQ.l0 k x8 x9 (wrap64 (x10+1))) else (some false))) else (none)) else (none)) else (some true)
def cQ.f (k:Nat)(l0:List (bl)):Option (Bool):=if (l0.length:Int)>2147483647 then (some false) else (cQ.l0 k l0 (l0.length:Int) 0)
theorem cQ.mono_l:∀ k,(∀ y0 y1 y2,ae (cQ.l0 k y0 y1 y2) (cQ.l0 (k+1) y0 y1 y2))
 | 0=>fun _ _ _ r h=>by simp [cQ.l0] at h
 | k+1=>by
  have ih0:=cQ.mono_l k
  ·intro y0 y1 y2;unfold cQ.l0
   repeat' first
   | (with_reducible exact ih0 _ _ _)
   | (with_reducible exact ae.refl _)
   | (with_reducible exact ae.none _)
   | (with_reducible refine ae.ite ?_ ?_)
   | (with_reducible refine ae.bind ?_ (fun _=>?_))
   | exact ih0 _ _ _
   | exact ae.none _
   | refine ae.ite ?_ ?_
   | refine ae.bind ?_ (fun _=>?_)
theorem cQ.mono:∀ a0 k,ae (cQ.f k a0) (cQ.f (k+1) a0):=by
 intro a0 k;have ih0:=cQ.mono_l k;unfold cQ.f
 repeat' first
   | (with_reducible exact ih0 _ _ _)
   | (with_reducible exact ae.refl _)
   | (with_reducible exact ae.none _)
   | (with_reducible refine ae.ite ?_ ?_)
   | (with_reducible refine ae.bind ?_ (fun _=>?_))
   | exact ih0 _ _ _
   | exact ae.none _
   | refine ae.ite ?_ ?_
   | refine ae.bind ?_ (fun _=>?_)
set_option maxHeartbeats 8000000 in
set_option maxRecDepth 100000 in
theorem cQ.calls (k:Nat)(A0:Option Addr)(c0:Nat)(l0:List (bl))(r:Bool)(w:World)(hr0:Kd.C dU w A0 l0.length l0)(hc0:l0.length<=c0)(h:cQ.f k l0=some r) :
  Calls Tryz.prog 16 #[.slice A0 l0.length c0] w fun e w'=>e=.returned (.bool r)/\Below w.heap.size w w':=by
 have hu98:=Tryz.underlying98;have HR0:=Mw hr0;have HC0:=Mw hc0;clear hr0 hc0;have HB:=Mw (Below.refl w.heap.size w);have H:(if (l0.length:Int)>2147483647 then (some false) else (cQ.l0 k l0 (l0.length:Int) 0))=some r:=h;clear h;by_cases c2:(l0.length:Int)>2147483647
 ·rw [if_pos c2] at H;have c2b0:decide (2147483647<(l0.length:Int))=true:=decide_eq_true c2;have c2b1:decide (2147483647<l0.length)=true:=decide_eq_true (by omega);clear c2;obtain rfl:=Option.some.inj H
  go_enter Tryz.func16,Tryz.ntmps16
  go_wp2
  go_ret
  exact⟨by first | rfl | (simp [gT,gU]<;>rfl) | (simp [*,gT,gU]<;>rfl),by repeat (first | (with_reducible first | exact HB.out | apply ai | apply au | apply bC) | exact HB.out)⟩
 rw [if_neg c2] at H;have c2b0:decide (2147483647<(l0.length:Int))=false:=decide_eq_false c2;have c2b1:decide (2147483647<l0.length)=false:=decide_eq_false (by omega);clear c2;have H':=Mw H;clear H
 go_enter Tryz.func16,Tryz.ntmps16
 go_wp2
 go_loopg [10] k (fun kq v10 w'=>∃ (x10_1:Int),v10=.int .i64 x10_1/\Aside0 (cQ.l0 kq l0 (l0.length:Int) x10_1=some r)/\Aside0 (kq<=k)/\Aside0 (Below w.heap.size w w'))
 case atStart=>exact⟨(0),(by first | rfl | (simp;done) | (simp [*];done)),H',⟨Nat.le_refl _⟩,⟨by repeat (first | (with_reducible first | exact HB.out | apply ai | apply au | apply bC) | exact HB.out)⟩⟩
 case round=>
  clear H'
  try clear c1
  try clear c2
  try clear c2b0
  try clear c2b1
  try clear p2
  obtain⟨x10_1,rfl,HA,HK1,HB⟩:=hrel;cases gk with
  | zero=>exact absurd HA.out (by simp [cQ.l0])
  | succ k1=>
   have H:=HA.out;clear HA;simp only [cQ.l0] at H;by_cases c3:x10_1<(l0.length:Int);rotate_left
   ·rw [if_neg c3] at H;have c3b0:decide (x10_1<(l0.length:Int))=false:=decide_eq_false c3;clear c3;obtain rfl:=Option.some.inj H
    go_wp2
    go_ret
    exact⟨by first | rfl | (simp [gT,gU]<;>rfl) | (simp [*,gT,gU]<;>rfl),by repeat (first | (with_reducible first | exact HB.out | apply ai | apply au | apply bC) | exact HB.out)⟩
   rw [if_pos c3] at H;have c3b0:decide (x10_1<(l0.length:Int))=true:=decide_eq_true c3;clear c3;by_cases c4:0<=x10_1;rotate_left
   ·rw [if_neg c4] at H;exact absurd H (by simp)
   rw [if_pos c4] at H;have c4b0:decide (0<=x10_1)=true:=decide_eq_true c4;clear c4;by_cases c5:x10_1<(l0.length:Int);rotate_left
   ·rw [if_neg c5] at H;exact absurd H (by simp)
   rw [if_pos c5] at H;have c5b0:decide (x10_1<(l0.length:Int))=true:=decide_eq_true c5;clear c5;replace H:=Option.bind_eq_some_iff.mp H;obtain⟨t344,A60,H⟩:=H;replace H:(if t344=true then (cQ.l0 k1 l0 (l0.length:Int) (wrap64 (x10_1+1))) else (some false))=some r:=H;have A6:=Mw A60;clear A60;by_cases c7:t344=true;rotate_left
   ·replace c7:=Bool.eq_false_iff.mpr c7;subst c7;have H1:(some false)=some r:=by rw [if_neg (show ¬ (false=true) by decide)] at H;exact H
    clear H;have H:=H1;clear H1;obtain rfl:=Option.some.inj H;have p342:0<=(x10_1:Int):=of_decide_eq_true (by first | (with_reducible assumption) | assumption);have q342:x10_1<(l0.length:Int):=of_decide_eq_true (by first | (with_reducible assumption) | assumption);obtain⟨ad342,A342_1,c342_1,e342,hx342_0,hx342_1,hl342_1,hi342_1⟩:=nl HR0.out x10_1 p342 q342;cases e342;replace hx342_0:=(HB.out.cell (World.block_lt_of_cell? w _ hx342_0)).trans hx342_0;replace hx342_1:=(HB.out.cell (World.block_lt_of_cell? w _ hx342_1)).trans hx342_1;have HR342_1:=Mw hi342_1;have HC342_1:=Mw hl342_1;clear hi342_1 hl342_1;replace p342:=eq_true p342;replace q342:=eq_true q342
    go_wp2_with (first | ((with_reducible refine de (N:=4) rfl ?_);refine pS ?hg (N:=4) ?hd (cs:=#[.int .i64 0,.slice none 0 0]) (t:=98) ?hr ?_;(case hd=>rfl);(case hg=>rfl);(case hr=>first | (go_simp;done) | (go_simp;rfl));intro gb343 hg w11 hbox hb;have n0_:=Mw (bo (by repeat (first | (with_reducible first | exact HB.out | apply ai | apply au | apply bC) | exact HB.out)) hb);have n1_:=Mw (hbox);have n2_:=Mw ((by rw [hg];exact (eL (by repeat (first | (with_reducible first | exact HB.out | apply ai | apply au | apply bC) | exact HB.out))):w.heap.size<=gb343));have n3_:=Mw ((by rw [hg];exact (eL (by repeat (first | (with_reducible first | exact HB.out | apply ai | apply au | apply bC) | exact HB.out))):w.heap.size<=gb343));clear HB;have HB:=n0_;have BK343:=n1_;have GW343:=n2_;have GE343:=n3_;clear n0_ n1_ n2_ n3_;clear hb hbox hg;have hcz12_0:w11.cell? ⟨gb343,0,none⟩=some (.int .i64 0):=(kA BK343.out 0).trans rfl;have hcz12_1:w11.cell? ⟨gb343,1,none⟩=some (.slice none 0 0):=(kA BK343.out 1).trans rfl;have hfz12_0:=jO BK343.out 0;have hfz12_1:=jO BK343.out 1) | ((with_reducible refine bg (f:=51) rfl ?_);refine be (some 15) rfl rfl Tryz.func51 (by kernel_rfl) rfl #[.agg #[.int .i64 ((cC l0 x10_1).f0),.slice A342_1 ((cC l0 x10_1).f1).length c342_1]] rfl (by (try simp only [List.map_toArray,List.map_cons,List.map_nil]);first | done | rfl | (simp only [List.length_drop,List.length_take];rfl)) ?_;(with_reducible refine (mP.calls ((cC l0 x10_1).f0) _ _ ((cC l0 x10_1).f1) false _ ?side1 ?side2 A6.out).mono ?_);(case side1=>exact Kd.bB HR342_1.out (by repeat (first | (with_reducible first | exact HB.out | apply ai | apply au | apply bC | refine gJ ?_ GE343.out) | exact HB.out)));(case side2=>exact HC342_1.out);rintro e w13 ⟨rfl,hb⟩;refine⟨_,rfl,?_⟩;have n0_:=Mw (uZ (g:=gb343) (o:=.cells #[.int .i64 ((cC l0 x10_1).f0),.slice A342_1 ((cC l0 x10_1).f1).length c342_1] 98 (0,0)) (by (with_reducible repeat (first | refine mX ?_ _ | refine mW ?_ | refine mh ?_ _));refine pR (cs:=#[.int .i64 ((cC l0 x10_1).f0),.slice none 0 0]) ?_ 1 _ rfl;(with_reducible repeat (first | refine mX ?_ _ | refine mW ?_ | refine mh ?_ _));refine pR (cs:=#[.int .i64 0,.slice none 0 0]) ?_ 0 _ rfl;(with_reducible repeat (first | refine mX ?_ _ | refine mW ?_ | refine mh ?_ _));exact BK343.out) hb);have n1_:=Mw (bo (by repeat (first | (with_reducible first | exact HB.out | apply ai | apply au | apply bC | refine gJ ?_ GE343.out) | exact HB.out)) hb);clear BK343;clear HB;have BK343:=n0_;have HB:=n1_;clear n0_ n1_;(try clear hb);(try clear hb2);(try clear hk);(try clear hi)))
    go_ret
    exact⟨by first | rfl | (simp [gT,gU]<;>rfl) | (simp [*,gT,gU]<;>rfl),by repeat (first | (with_reducible first | exact HB.out | apply ai | apply au | apply bC | refine gJ ?_ GE343.out) | exact HB.out)⟩
   subst c7;have H1:(cQ.l0 k1 l0 (l0.length:Int) (wrap64 (x10_1+1)))=some r:=by rw [if_pos rfl] at H;exact H
   clear H;have H:=H1;clear H1;have H':=Mw H;clear H;have p342:0<=(x10_1:Int):=of_decide_eq_true (by first | (with_reducible assumption) | assumption);have q342:x10_1<(l0.length:Int):=of_decide_eq_true (by first | (with_reducible assumption) | assumption);obtain⟨ad342,A342_1,c342_1,e342,hx342_0,hx342_1,hl342_1,hi342_1⟩:=nl HR0.out x10_1 p342 q342;cases e342;replace hx342_0:=(HB.out.cell (World.block_lt_of_cell? w _ hx342_0)).trans hx342_0;replace hx342_1:=(HB.out.cell (World.block_lt_of_cell? w _ hx342_1)).trans hx342_1;have HR342_1:=Mw hi342_1;have HC342_1:=Mw hl342_1;clear hi342_1 hl342_1;replace p342:=eq_true p342;replace q342:=eq_true q342
   go_wp2_with (first | ((with_reducible refine de (N:=4) rfl ?_);refine pS ?hg (N:=4) ?hd (cs:=#[.int .i64 0,.slice none 0 0]) (t:=98) ?hr ?_;(case hd=>rfl);(case hg=>rfl);(case hr=>first | (go_simp;done) | (go_simp;rfl));intro gb343 hg w8 hbox hb;have n0_:=Mw (bo (by repeat (first | (with_reducible first | exact HB.out | apply ai | apply au | apply bC) | exact HB.out)) hb);have n1_:=Mw (hbox);have n2_:=Mw ((by rw [hg];exact (eL (by repeat (first | (with_reducible first | exact HB.out | apply ai | apply au | apply bC) | exact HB.out))):w.heap.size<=gb343));have n3_:=Mw ((by rw [hg];exact (eL (by repeat (first | (with_reducible first | exact HB.out | apply ai | apply au | apply bC) | exact HB.out))):w.heap.size<=gb343));clear HB;have HB:=n0_;have BK343:=n1_;have GW343:=n2_;have GE343:=n3_;clear n0_ n1_ n2_ n3_;clear hb hbox hg;have hcz9_0:w8.cell? ⟨gb343,0,none⟩=some (.int .i64 0):=(kA BK343.out 0).trans rfl;have hcz9_1:w8.cell? ⟨gb343,1,none⟩=some (.slice none 0 0):=(kA BK343.out 1).trans rfl;have hfz9_0:=jO BK343.out 0;have hfz9_1:=jO BK343.out 1) | ((with_reducible refine bg (f:=51) rfl ?_);refine be (some 15) rfl rfl Tryz.func51 (by kernel_rfl) rfl #[.agg #[.int .i64 ((cC l0 x10_1).f0),.slice A342_1 ((cC l0 x10_1).f1).length c342_1]] rfl (by (try simp only [List.map_toArray,List.map_cons,List.map_nil]);first | done | rfl | (simp only [List.length_drop,List.length_take];rfl)) ?_;(with_reducible refine (mP.calls ((cC l0 x10_1).f0) _ _ ((cC l0 x10_1).f1) true _ ?side1 ?side2 A6.out).mono ?_);(case side1=>exact Kd.bB HR342_1.out (by repeat (first | (with_reducible first | exact HB.out | apply ai | apply au | apply bC | refine gJ ?_ GE343.out) | exact HB.out)));(case side2=>exact HC342_1.out);rintro e w10 ⟨rfl,hb⟩;refine⟨_,rfl,?_⟩;have n0_:=Mw (uZ (g:=gb343) (o:=.cells #[.int .i64 ((cC l0 x10_1).f0),.slice A342_1 ((cC l0 x10_1).f1).length c342_1] 98 (0,0)) (by (with_reducible repeat (first | refine mX ?_ _ | refine mW ?_ | refine mh ?_ _));refine pR (cs:=#[.int .i64 ((cC l0 x10_1).f0),.slice none 0 0]) ?_ 1 _ rfl;(with_reducible repeat (first | refine mX ?_ _ | refine mW ?_ | refine mh ?_ _));refine pR (cs:=#[.int .i64 0,.slice none 0 0]) ?_ 0 _ rfl;(with_reducible repeat (first | refine mX ?_ _ | refine mW ?_ | refine mh ?_ _));exact BK343.out) hb);have n1_:=Mw (bo (by repeat (first | (with_reducible first | exact HB.out | apply ai | apply au | apply bC | refine gJ ?_ GE343.out) | exact HB.out)) hb);clear BK343;clear HB;have BK343:=n0_;have HB:=n1_;clear n0_ n1_;(try clear hb);(try clear hb2);(try clear hk);(try clear hi)))
   go_roundg k1
   case measure=>have:=HK1.out;omega
   case rel=>exact⟨(wrap64 (x10_1+1)),(by first | rfl | (simp;done) | (simp [*];done)),H',⟨by have:=HK1.out;omega⟩,⟨by repeat (first | (with_reducible first | exact HB.out | apply ai | apply au | apply bC | refine gJ ?_ GE343.out) | exact HB.out)⟩⟩
end Go.Proofs.YtgccjgpdjkhpdaaGreat.F
