import Derived.Test.YtgccjgpdjkhpdaaGreatVQ3
/-! Own texts of this claim, part 37. -/
namespace Go.Proofs.YtgccjgpdjkhpdaaGreat.F
open Go.RowKit Go.Proofs.YtgccjgpdjkhpdaaGreatW.PrintWords Go.Proofs.YtgccjgpdjkhpdaaGreatW.PrintLast Go.Proofs.YtgccjgpdjkhpdaaGreatW.PrintMore
attribute [local go_sem] max2_int min2_int max_two min_two max_three min_three max_four min_four
set_option linter.unusedVariables false
set_option linter.unusedSimpArgs false
mutual
def laws_qrSquare.l0:Nat->List (List Bool)->Int->List (List Bool)->Int->Int->Option ((List (List Bool)))
 | 0,_,_,_,_,_=>none
 | k+1,x0,x3,x4,x13,x14=>if x14<x13 then (if 0<=x3 then (if (x3:Int).toNat<=281474976710656 then (if 0<=x14 then (if x14<(x4.length:Int) then (laws_qrSquare.l1 k x0 x3 (x4.set (x14:Int).toNat (List.replicate (x3:Int).toNat false)) x14 0 x13 x14) else (none)) else (none)) else (none)) else (none)) else (some x4)
def laws_qrSquare.l1:Nat->List (List Bool)->Int->List (List Bool)->Int->Int->Int->Int->Option ((List (List Bool)))
 | 0,_,_,_,_,_,_,_=>none
 | k+1,x0,x3,x4,x5,x6,x13,x14=>if x6<x3 then (if 0<=x5 then (if x5<(x0.length:Int) then (if x6<((rd_L1 x0 x5).length:Int) then (if x5<(x4.length:Int) then (if 0<=x6 then (if x6<((rd_L1 x4 x5).length:Int) then (laws_qrSquare.l1 k x0 x3 (x4.set (x5:Int).toNat ((rd_L1 x4 x5).set (x6:Int).toNat (rdOf false (rd_L1 x0 x5) x6))) x5 (wrap64 (x6+1)) x13 x14) else (none)) else (none)) else (none)) else (laws_qrSquare.l0 k x0 x3 x4 x13 (wrap64 (x14+1)))) else (none)) else (none)) else (laws_qrSquare.l0 k x0 x3 x4 x13 (wrap64 (x14+1)))
end
def laws_qrSquare.f (k:Nat)(l0:List (List Bool)):Option ((List (List Bool))):=if 0<=(mn (l0.length:Int) 60) then (if (mn (l0.length:Int) 60:Int).toNat<=11728124029610 then ((some (List.replicate (mn (l0.length:Int) 60:Int).toNat []:List (List Bool))).bind fun y102=>(laws_qrSquare.l0 k l0 (mn (l0.length:Int) 60) y102 (y102.length:Int) 0)) else (none)) else (none)
theorem laws_qrSquare.mono_l:∀ k,(∀ y0 y1 y2 y3 y4,LeO (laws_qrSquare.l0 k y0 y1 y2 y3 y4) (laws_qrSquare.l0 (k+1) y0 y1 y2 y3 y4))/\(∀ y0 y1 y2 y3 y4 y5 y6,LeO (laws_qrSquare.l1 k y0 y1 y2 y3 y4 y5 y6) (laws_qrSquare.l1 (k+1) y0 y1 y2 y3 y4 y5 y6))
 | 0=>⟨fun _ _ _ _ _ r h=>by simp [laws_qrSquare.l0] at h,fun _ _ _ _ _ _ _ r h=>by simp [laws_qrSquare.l1] at h⟩
 | k+1=>by
  obtain⟨ih0,ih1⟩:=laws_qrSquare.mono_l k
  refine⟨?_,?_⟩
  ·intro y0 y1 y2 y3 y4
   unfold laws_qrSquare.l0
   repeat' first
   | (with_reducible exact ih0 _ _ _ _ _)
   | (with_reducible exact ih1 _ _ _ _ _ _ _)
   | (with_reducible exact LeO.refl _)
   | (with_reducible exact LeO.none _)
   | (with_reducible refine LeO.ite ?_ ?_)
   | (with_reducible refine LeO.bind ?_ (fun _=>?_))
   | exact ih0 _ _ _ _ _
   | exact ih1 _ _ _ _ _ _ _
   | exact LeO.none _
   | refine LeO.ite ?_ ?_
   | refine LeO.bind ?_ (fun _=>?_)
  ·intro y0 y1 y2 y3 y4 y5 y6
   unfold laws_qrSquare.l1
   repeat' first
   | (with_reducible exact ih0 _ _ _ _ _)
   | (with_reducible exact ih1 _ _ _ _ _ _ _)
   | (with_reducible exact LeO.refl _)
   | (with_reducible exact LeO.none _)
   | (with_reducible refine LeO.ite ?_ ?_)
   | (with_reducible refine LeO.bind ?_ (fun _=>?_))
   | exact ih0 _ _ _ _ _
   | exact ih1 _ _ _ _ _ _ _
   | exact LeO.none _
   | refine LeO.ite ?_ ?_
   | refine LeO.bind ?_ (fun _=>?_)
theorem laws_qrSquare.mono:∀ a0 k,LeO (laws_qrSquare.f k a0) (laws_qrSquare.f (k+1) a0):=by
 intro a0 k
 obtain⟨ih0,ih1⟩:=laws_qrSquare.mono_l k
 unfold laws_qrSquare.f
 repeat' first
   | (with_reducible exact ih0 _ _ _ _ _)
   | (with_reducible exact ih1 _ _ _ _ _ _ _)
   | (with_reducible exact LeO.refl _)
   | (with_reducible exact LeO.none _)
   | (with_reducible refine LeO.ite ?_ ?_)
   | (with_reducible refine LeO.bind ?_ (fun _=>?_))
   | exact ih0 _ _ _ _ _
   | exact ih1 _ _ _ _ _ _ _
   | exact LeO.none _
   | refine LeO.ite ?_ ?_
   | refine LeO.bind ?_ (fun _=>?_)
end Go.Proofs.YtgccjgpdjkhpdaaGreat.F
