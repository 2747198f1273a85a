import Derived.Test.YtgccjgpdjkhpdaaGreatVCrop2
/-! Own texts of this claim, part 15. -/
namespace Go.Proofs.YtgccjgpdjkhpdaaGreat.F
open Go.RowKit Go.Proofs.YtgccjgpdjkhpdaaGreatW.PrintWords Go.Proofs.YtgccjgpdjkhpdaaGreatW.PrintLast Go.Proofs.YtgccjgpdjkhpdaaGreatW.PrintMore
attribute [local go_sem] max2_int min2_int max_two min_two max_three min_three max_four min_four
set_option linter.unusedVariables false
set_option linter.unusedSimpArgs false
def laws_qrBytes.l0:Nat->List Int->List Int->Int->Int->Option (Bool)
 | 0,_,_,_,_=>none
 | k+1,x0,x1,x12,x13=>if x13<x12 then (if 0<=x13 then (if x13<(x0.length:Int) then (if x13<(x1.length:Int) then (if (rd x0 x13)=(rd x1 x13) then (laws_qrBytes.l0 k x0 x1 x12 (wrap64 (x13+1))) else (some false)) else (none)) else (none)) else (none)) else (some true)
def laws_qrBytes.f (k:Nat)(l0:List Int)(l1:List Int):Option (Bool):=if (l0.length:Int)=(l1.length:Int) then (laws_qrBytes.l0 k l0 l1 (l0.length:Int) 0) else (some false)
theorem laws_qrBytes.mono_l:∀ k,(∀ y0 y1 y2 y3,LeO (laws_qrBytes.l0 k y0 y1 y2 y3) (laws_qrBytes.l0 (k+1) y0 y1 y2 y3))
 | 0=>fun _ _ _ _ r h=>by simp [laws_qrBytes.l0] at h
 | k+1=>by
  have ih0:=laws_qrBytes.mono_l k
  ·intro y0 y1 y2 y3
   unfold laws_qrBytes.l0
   repeat' first
   | (with_reducible exact ih0 _ _ _ _)
   | (with_reducible exact LeO.refl _)
   | (with_reducible exact LeO.none _)
   | (with_reducible refine LeO.ite ?_ ?_)
   | (with_reducible refine LeO.bind ?_ (fun _=>?_))
   | exact ih0 _ _ _ _
   | exact LeO.none _
   | refine LeO.ite ?_ ?_
   | refine LeO.bind ?_ (fun _=>?_)
theorem laws_qrBytes.mono:∀ a0 a1 k,LeO (laws_qrBytes.f k a0 a1) (laws_qrBytes.f (k+1) a0 a1):=by
 intro a0 a1 k
 have ih0:=laws_qrBytes.mono_l k
 unfold laws_qrBytes.f
 repeat' first
   | (with_reducible exact ih0 _ _ _ _)
   | (with_reducible exact LeO.refl _)
   | (with_reducible exact LeO.none _)
   | (with_reducible refine LeO.ite ?_ ?_)
   | (with_reducible refine LeO.bind ?_ (fun _=>?_))
   | exact ih0 _ _ _ _
   | exact LeO.none _
   | refine LeO.ite ?_ ?_
   | refine LeO.bind ?_ (fun _=>?_)
set_option maxHeartbeats 8000000 in
set_option maxRecDepth 100000 in
theorem laws_qrBytes.calls (k:Nat)(A0:Option Addr)(c0:Nat)(l0:List Int)(A1:Option Addr)(c1:Nat)(l1:List Int)(r:Bool)(w:World)(hr0:Kd.C (Kd.int .u8) w A0 l0.length l0)(hc0:l0.length<=c0)(hr1:Kd.C (Kd.int .u8) w A1 l1.length l1)(hc1:l1.length<=c1)(h:laws_qrBytes.f k l0 l1=some r) :
  Calls Tryz.prog 54 #[.slice A0 l0.length c0,.slice A1 l1.length c1] w fun e w'=>e=.returned (.bool r)/\Drawn0 w w':=by
 have HR0:=Aside0.mk hr0
 have HC0:=Aside0.mk hc0
 clear hr0 hc0
 have HR1:=Aside0.mk hr1
 have HC1:=Aside0.mk hc1
 clear hr1 hc1
 have H:(if (l0.length:Int)=(l1.length:Int) then (laws_qrBytes.l0 k l0 l1 (l0.length:Int) 0) else (some false))=some r:=h
 clear h
 by_cases c3:(l0.length:Int)=(l1.length:Int)
 ·rw [if_pos c3] at H
  have c3b0:((l0.length:Int)==(l1.length:Int))=true:=beq_iff_eq.mpr c3
  have c3b1:((l0.length:Int) != (l1.length:Int))=false:=bne_eq_false_iff_eq.mpr c3
  have c3b2:(l0.length==l1.length)=true:=by first | simpa using c3 | (simp at c3 ⊢;omega)
  clear c3
  have H':=Aside0.mk H
  clear H
  go_enter Tryz.func54,Tryz.ntmps54
  go_wp2
  repeat (go_quiet (fail);try go_wp2)
  go_loopg [13] k (fun kq v13 w'=>∃ (x13_1:Int),v13=.int .i64 x13_1/\Aside0 (laws_qrBytes.l0 kq l0 l1 (l0.length:Int) x13_1=some r)/\Aside0 (kq<=k)/\Drawn0 w w')
  case atStart=>exact⟨(0),(by first | rfl | (simp;done) | (simp [*];done)),H',⟨Nat.le_refl _⟩,by repeat (first | exact Drawn0.refl _ | apply Drawn0.step)⟩
  case round=>
   clear H'
   try clear c1
   try clear p2
   try clear c3
   try clear c3b0
   try clear c3b1
   try clear c3b2
   obtain⟨x13_1,rfl,HA,HK1,⟨m1,rfl⟩⟩:=hrel
   cases gk with
   | zero=>exact absurd HA.out (by simp [laws_qrBytes.l0])
   | succ k1=>
    have H:=HA.out
    clear HA
    simp only [laws_qrBytes.l0] at H
    by_cases c4:x13_1<(l0.length:Int)
    ·rw [if_pos c4] at H
     have c4b0:decide (x13_1<(l0.length:Int))=true:=decide_eq_true c4
     clear c4
     by_cases c5:0<=x13_1
     ·rw [if_pos c5] at H
      have c5b0:decide (0<=x13_1)=true:=decide_eq_true c5
      clear c5
      by_cases c6:x13_1<(l0.length:Int)
      ·rw [if_pos c6] at H
       have c6b0:decide (x13_1<(l0.length:Int))=true:=decide_eq_true c6
       clear c6
       by_cases c7:x13_1<(l1.length:Int)
       ·rw [if_pos c7] at H
        have c7b0:decide (x13_1<(l1.length:Int))=true:=decide_eq_true c7
        clear c7
        by_cases c8:(rd l0 x13_1)=(rd l1 x13_1)
        ·rw [if_pos c8] at H
         have c8b0:((rd l0 x13_1)==(rd l1 x13_1))=true:=beq_iff_eq.mpr c8
         have c8b1:((rd l0 x13_1) != (rd l1 x13_1))=false:=bne_eq_false_iff_eq.mpr c8
         clear c8
         have H':=Aside0.mk H
         clear H
         have p418:0<=(x13_1:Int):=of_decide_eq_true (by first | (with_reducible assumption) | assumption)
         have q418:x13_1<(l0.length:Int):=of_decide_eq_true (by first | (with_reducible assumption) | assumption)
         obtain⟨ad418,e418,hx418_0⟩:=Kd.at_int HR0.out x13_1 p418 q418
         cases e418
         replace p418:=eq_true p418
         replace q418:=eq_true q418
         have p419:0<=(x13_1:Int):=of_decide_eq_true (by first | (with_reducible assumption) | assumption)
         have q419:x13_1<(l1.length:Int):=of_decide_eq_true (by first | (with_reducible assumption) | assumption)
         obtain⟨ad419,e419,hx419_0⟩:=Kd.at_int HR1.out x13_1 p419 q419
         cases e419
         replace p419:=eq_true p419
         replace q419:=eq_true q419
         go_wp2
         repeat (go_quiet (fail);try go_wp2)
         go_roundg k1
         case measure=>have:=HK1.out;omega
         case rel=>exact⟨(wrap64 (x13_1+1)),(by first | rfl | (simp;done) | (simp [*];done)),H',⟨by have:=HK1.out;omega⟩,by repeat (first | exact Drawn0.refl _ | apply Drawn0.step)⟩
        ·rw [if_neg c8] at H
         have c8b0:((rd l0 x13_1)==(rd l1 x13_1))=false:=beq_eq_false_iff_ne.mpr c8
         have c8b1:((rd l0 x13_1) != (rd l1 x13_1))=true:=bne_iff_ne.mpr c8
         obtain rfl:=Option.some.inj H
         have p418:0<=(x13_1:Int):=of_decide_eq_true (by first | (with_reducible assumption) | assumption)
         have q418:x13_1<(l0.length:Int):=of_decide_eq_true (by first | (with_reducible assumption) | assumption)
         obtain⟨ad418,e418,hx418_0⟩:=Kd.at_int HR0.out x13_1 p418 q418
         cases e418
         replace p418:=eq_true p418
         replace q418:=eq_true q418
         have p419:0<=(x13_1:Int):=of_decide_eq_true (by first | (with_reducible assumption) | assumption)
         have q419:x13_1<(l1.length:Int):=of_decide_eq_true (by first | (with_reducible assumption) | assumption)
         obtain⟨ad419,e419,hx419_0⟩:=Kd.at_int HR1.out x13_1 p419 q419
         cases e419
         replace p419:=eq_true p419
         replace q419:=eq_true q419
         go_wp2
         repeat (go_quiet (fail);try go_wp2)
         go_ret
         exact⟨by first | rfl | (simp;done) | (simp [*];done),by repeat (first | exact Drawn0.refl _ | apply Drawn0.step)⟩
       ·rw [if_neg c7] at H
        exact absurd H (by simp)
      ·rw [if_neg c6] at H
       exact absurd H (by simp)
     ·rw [if_neg c5] at H
      exact absurd H (by simp)
    ·rw [if_neg c4] at H
     have c4b0:decide (x13_1<(l0.length:Int))=false:=decide_eq_false c4
     clear c4
     obtain rfl:=Option.some.inj H
     go_wp2
     repeat (go_quiet (fail);try go_wp2)
     go_ret
     exact⟨by first | rfl | (simp;done) | (simp [*];done),by repeat (first | exact Drawn0.refl _ | apply Drawn0.step)⟩
 ·rw [if_neg c3] at H
  have c3b0:((l0.length:Int)==(l1.length:Int))=false:=beq_eq_false_iff_ne.mpr c3
  have c3b1:((l0.length:Int) != (l1.length:Int))=true:=bne_iff_ne.mpr c3
  have c3b2:(l0.length==l1.length)=false:=by first | simpa using c3 | (simp at c3 ⊢;omega)
  obtain rfl:=Option.some.inj H
  go_enter Tryz.func54,Tryz.ntmps54
  go_wp2
  repeat (go_quiet (fail);try go_wp2)
  go_ret
  exact⟨by first | rfl | (simp;done) | (simp [*];done),by repeat (first | exact Drawn0.refl _ | apply Drawn0.step)⟩
def laws_zzFits7.l0:Nat->List (List Bool)->Int->Int->Option (Bool)
 | 0,_,_,_=>none
 | k+1,x8,x9,x10=>if x10<x9 then (if 0<=x10 then (if x10<(x8.length:Int) then (if ((rd_L1 x8 x10).length:Int)>2147483647 then (some false) else (laws_zzFits7.l0 k x8 x9 (wrap64 (x10+1)))) else (none)) else (none)) else (some true)
def laws_zzFits7.f (k:Nat)(l0:List (List Bool)):Option (Bool):=if (l0.length:Int)>2147483647 then (some false) else (laws_zzFits7.l0 k l0 (l0.length:Int) 0)
theorem laws_zzFits7.mono_l:∀ k,(∀ y0 y1 y2,LeO (laws_zzFits7.l0 k y0 y1 y2) (laws_zzFits7.l0 (k+1) y0 y1 y2))
 | 0=>fun _ _ _ r h=>by simp [laws_zzFits7.l0] at h
 | k+1=>by
  have ih0:=laws_zzFits7.mono_l k
  ·intro y0 y1 y2
   unfold laws_zzFits7.l0
   repeat' first
   | (with_reducible exact ih0 _ _ _)
   | (with_reducible exact LeO.refl _)
   | (with_reducible exact LeO.none _)
   | (with_reducible refine LeO.ite ?_ ?_)
   | (with_reducible refine LeO.bind ?_ (fun _=>?_))
   | exact ih0 _ _ _
   | exact LeO.none _
   | refine LeO.ite ?_ ?_
   | refine LeO.bind ?_ (fun _=>?_)
theorem laws_zzFits7.mono:∀ a0 k,LeO (laws_zzFits7.f k a0) (laws_zzFits7.f (k+1) a0):=by
 intro a0 k
 have ih0:=laws_zzFits7.mono_l k
 unfold laws_zzFits7.f
 repeat' first
   | (with_reducible exact ih0 _ _ _)
   | (with_reducible exact LeO.refl _)
   | (with_reducible exact LeO.none _)
   | (with_reducible refine LeO.ite ?_ ?_)
   | (with_reducible refine LeO.bind ?_ (fun _=>?_))
   | exact ih0 _ _ _
   | exact LeO.none _
   | refine LeO.ite ?_ ?_
   | refine LeO.bind ?_ (fun _=>?_)
end Go.Proofs.YtgccjgpdjkhpdaaGreat.F
namespace Go.Proofs.YtgccjgpdjkhpdaaGreat.F
open Go.RowKit Go.Proofs.YtgccjgpdjkhpdaaGreatW.PrintWords Go.Proofs.YtgccjgpdjkhpdaaGreatW.PrintLast Go.Proofs.YtgccjgpdjkhpdaaGreatW.PrintMore
attribute [local go_sem] max2_int min2_int max_two min_two max_three min_three max_four min_four
set_option linter.unusedVariables false
set_option linter.unusedSimpArgs false
mutual
def laws_qrSquare.l0:Nat->List (List Bool)->Int->List (List Bool)->Int->Int->Option ((List (List Bool)))
 | 0,_,_,_,_,_=>none
 | k+1,x0,x3,x4,x13,x14=>if x14<x13 then (if 0<=x3 then (if (x3:Int).toNat<=281474976710656 then (if 0<=x14 then (if x14<(x4.length:Int) then (laws_qrSquare.l1 k x0 x3 (x4.set (x14:Int).toNat (List.replicate (x3:Int).toNat false)) x14 0 x13 x14) else (none)) else (none)) else (none)) else (none)) else (some x4)
def laws_qrSquare.l1:Nat->List (List Bool)->Int->List (List Bool)->Int->Int->Int->Int->Option ((List (List Bool)))
 | 0,_,_,_,_,_,_,_=>none
 | k+1,x0,x3,x4,x5,x6,x13,x14=>if x6<x3 then (if 0<=x5 then (if x5<(x0.length:Int) then (if x6<((rd_L1 x0 x5).length:Int) then (if x5<(x4.length:Int) then (if 0<=x6 then (if x6<((rd_L1 x4 x5).length:Int) then (laws_qrSquare.l1 k x0 x3 (x4.set (x5:Int).toNat ((rd_L1 x4 x5).set (x6:Int).toNat (rdOf false (rd_L1 x0 x5) x6))) x5 (wrap64 (x6+1)) x13 x14) else (none)) else (none)) else (none)) else (laws_qrSquare.l0 k x0 x3 x4 x13 (wrap64 (x14+1)))) else (none)) else (none)) else (laws_qrSquare.l0 k x0 x3 x4 x13 (wrap64 (x14+1)))
end
def laws_qrSquare.f (k:Nat)(l0:List (List Bool)):Option ((List (List Bool))):=if 0<=(mn (l0.length:Int) 60) then (if (mn (l0.length:Int) 60:Int).toNat<=11728124029610 then ((some (List.replicate (mn (l0.length:Int) 60:Int).toNat []:List (List Bool))).bind fun y102=>(laws_qrSquare.l0 k l0 (mn (l0.length:Int) 60) y102 (y102.length:Int) 0)) else (none)) else (none)
theorem laws_qrSquare.mono_l:∀ k,(∀ y0 y1 y2 y3 y4,LeO (laws_qrSquare.l0 k y0 y1 y2 y3 y4) (laws_qrSquare.l0 (k+1) y0 y1 y2 y3 y4))/\(∀ y0 y1 y2 y3 y4 y5 y6,LeO (laws_qrSquare.l1 k y0 y1 y2 y3 y4 y5 y6) (laws_qrSquare.l1 (k+1) y0 y1 y2 y3 y4 y5 y6))
 | 0=>⟨fun _ _ _ _ _ r h=>by simp [laws_qrSquare.l0] at h,fun _ _ _ _ _ _ _ r h=>by simp [laws_qrSquare.l1] at h⟩
 | k+1=>by
  obtain⟨ih0,ih1⟩:=laws_qrSquare.mono_l k
  refine⟨?_,?_⟩
  ·intro y0 y1 y2 y3 y4
   unfold laws_qrSquare.l0
   repeat' first
   | (with_reducible exact ih0 _ _ _ _ _)
   | (with_reducible exact ih1 _ _ _ _ _ _ _)
   | (with_reducible exact LeO.refl _)
   | (with_reducible exact LeO.none _)
   | (with_reducible refine LeO.ite ?_ ?_)
   | (with_reducible refine LeO.bind ?_ (fun _=>?_))
   | exact ih0 _ _ _ _ _
   | exact ih1 _ _ _ _ _ _ _
   | exact LeO.none _
   | refine LeO.ite ?_ ?_
   | refine LeO.bind ?_ (fun _=>?_)
  ·intro y0 y1 y2 y3 y4 y5 y6
   unfold laws_qrSquare.l1
   repeat' first
   | (with_reducible exact ih0 _ _ _ _ _)
   | (with_reducible exact ih1 _ _ _ _ _ _ _)
   | (with_reducible exact LeO.refl _)
   | (with_reducible exact LeO.none _)
   | (with_reducible refine LeO.ite ?_ ?_)
   | (with_reducible refine LeO.bind ?_ (fun _=>?_))
   | exact ih0 _ _ _ _ _
   | exact ih1 _ _ _ _ _ _ _
   | exact LeO.none _
   | refine LeO.ite ?_ ?_
   | refine LeO.bind ?_ (fun _=>?_)
theorem laws_qrSquare.mono:∀ a0 k,LeO (laws_qrSquare.f k a0) (laws_qrSquare.f (k+1) a0):=by
 intro a0 k
 obtain⟨ih0,ih1⟩:=laws_qrSquare.mono_l k
 unfold laws_qrSquare.f
 repeat' first
   | (with_reducible exact ih0 _ _ _ _ _)
   | (with_reducible exact ih1 _ _ _ _ _ _ _)
   | (with_reducible exact LeO.refl _)
   | (with_reducible exact LeO.none _)
   | (with_reducible refine LeO.ite ?_ ?_)
   | (with_reducible refine LeO.bind ?_ (fun _=>?_))
   | exact ih0 _ _ _ _ _
   | exact ih1 _ _ _ _ _ _ _
   | exact LeO.none _
   | refine LeO.ite ?_ ?_
   | refine LeO.bind ?_ (fun _=>?_)
end Go.Proofs.YtgccjgpdjkhpdaaGreat.F
namespace Go.Proofs.YtgccjgpdjkhpdaaGreat.F
open Go.RowKit Go.Proofs.YtgccjgpdjkhpdaaGreatW.PrintWords Go.Proofs.YtgccjgpdjkhpdaaGreatW.PrintLast Go.Proofs.YtgccjgpdjkhpdaaGreatW.PrintMore
attribute [local go_sem] max2_int min2_int max_two min_two max_three min_three max_four min_four
set_option linter.unusedVariables false
set_option linter.unusedSimpArgs false
def laws_qrVersion.f (a0:Int):Option (Int):=some (wrap64 (1+(Int.tmod (wrap64 (a0)) 40)))
set_option maxHeartbeats 8000000 in
set_option maxRecDepth 100000 in
theorem laws_qrVersion.calls (a0:Int)(r:Int)(w:World)(h:laws_qrVersion.f a0=some r) :
  Calls Tryz.prog 11 #[.int .u8 a0] w fun e w'=>e=.returned (.int .i64 r)/\Drawn0 w w':=by
 have H:(some (wrap64 (1+(Int.tmod (wrap64 (a0)) 40))))=some r:=h
 clear h
 obtain rfl:=Option.some.inj H
 go_enter Tryz.func11,Tryz.ntmps11
 go_wp2
 go_ret
 exact⟨by first | rfl | (simp;done) | (simp [*];done),by repeat (first | exact Drawn0.refl _ | apply Drawn0.step)⟩
def IsS224 (w0 W:World)(g:Nat)(f0:Int)(f1:List (S221)):Prop:=∃ A1 c1,W.heap[g]? = some (.cells #[.int .i64 f0,.slice A1 f1.length c1] 224 (0,0))/\w0.heap.size<=g/\Kd.C k221 w0 A1 f1.length f1
theorem IsS224.grown {w0 W:World}{g:Nat}{f0:Int}{f1:List (S221)}{W1:World}{row:Option Nat}(h:IsS224 w0 W g f0 f1)(hw:W.grownBy W1 row)(hne:some g≠row):IsS224 w0 W1 g f0 f1:=by
 obtain⟨A1,c1,hb,hg,hr1⟩:=h
 exact⟨A1,c1,blk_grown hb hw hne,hg,hr1⟩
theorem IsS224.fresh {w0 W:World}{g:Nat}{f0:Int}{f1:List (S221)}(h:IsS224 w0 W g f0 f1):∀ k,W.heap.size<=k->k≠g:=by
 obtain⟨A1,c1,hb,hg,hr1⟩:=h
 exact Kd.freshB hb
theorem IsS224.kept {w0 W:World}{g:Nat}{f0:Int}{f1:List (S221)}{W1:World}{S:Nat->Prop}(h:IsS224 w0 W g f0 f1)(hk:Kept W W1 S)(hne:¬ S g):IsS224 w0 W1 g f0 f1:=by
 obtain⟨A1,c1,hb,hg,hr1⟩:=h
 exact⟨A1,c1,blk_kept hb hk hne,hg,hr1⟩
theorem IsS224.below {w0 W:World}{g:Nat}{f0:Int}{f1:List (S221)}{W1:World}(h:IsS224 w0 W g f0 f1)(hw:Below W.heap.size W W1):IsS224 w0 W1 g f0 f1:=h.grown (grown_of_below hw none) (by simp)
theorem IsS224.alloc {w0 W:World}{g:Nat}{f0:Int}{f1:List (S221)}(h:IsS224 w0 W g f0 f1)(o:Obj):IsS224 w0 (W.alloc o) g f0 f1:=h.below (below_alloc (Below.refl _ _) o)
theorem IsS224.drewN {w0 W:World}{g:Nat}{f0:Int}{f1:List (S221)}(h:IsS224 w0 W g f0 f1)(m:Nat):IsS224 w0 (W.drewN m) g f0 f1:=h
theorem IsS224.drew {w0 W:World}{g:Nat}{f0:Int}{f1:List (S221)}(h:IsS224 w0 W g f0 f1):IsS224 w0 W.drew g f0 f1:=h
theorem IsS224.at_ {w0 W:World}{g:Nat}{f0:Int}{f1:List (S221)}{w':World}{m:Nat}(hq:W.drewN m=w')(h:IsS224 w0 W g f0 f1):IsS224 w0 w' g f0 f1:=by subst hq;exact IsS224.drewN h m
theorem IsS224.own_ne {w0 W:World}{g:Nat}{f0:Int}{f1:List (S221)}{α:Type}{d:Kd α}{e:Nat}{base:Nat}{ok:Nat->Prop}{v:Value}{xs:List α}(h:IsS224 w0 W g f0 f1)(ho:d.R e W base ok v xs)(ht:e≠224):some g≠v.ownBlock:=by
 obtain⟨A1,c1,hb,hg,hr1⟩:=h
 exact Kd.R_ne ho hb ht
theorem IsS224.lt {w0 W:World}{g:Nat}{f0:Int}{f1:List (S221)}(h:IsS224 w0 W g f0 f1):g<W.heap.size:=by
 obtain⟨A1,c1,hb,hg,hr1⟩:=h
 exact blk_lt hb
theorem IsS224.ge {w0 W:World}{g:Nat}{f0:Int}{f1:List (S221)}(h:IsS224 w0 W g f0 f1):w0.heap.size<=g:=by
 obtain⟨A1,c1,hb,hg,hr1⟩:=h
 exact hg
theorem IsS224.far {w0 W:World}{g:Nat}{f0:Int}{f1:List (S221)}{p:Addr}(h:IsS224 w0 W g f0 f1)(hne:g≠p.block)(u:Value):IsS224 w0 (W.setCell p u) g f0 f1:=by
 obtain⟨A1,c1,hb,hg,hr1⟩:=h
 exact⟨A1,c1,blk_far hb hne u,hg,hr1⟩
end Go.Proofs.YtgccjgpdjkhpdaaGreat.F
