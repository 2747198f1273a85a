import Derived.Test.YtgccjgpdjkhpdaaGreatVQ19
/-! Own texts of this claim, part 20. -/
namespace Go.Proofs.YtgccjgpdjkhpdaaGreat.F
open Go.RowKit Go.Proofs.YtgccjgpdjkhpdaaGreatW.PrintWords Go.Proofs.YtgccjgpdjkhpdaaGreatW.PrintLast Go.Proofs.YtgccjgpdjkhpdaaGreatW.PrintMore
attribute [local go_sem] max2_int min2_int max_two min_two max_three min_three max_four min_four
set_option linter.unusedVariables false
set_option linter.unusedSimpArgs false
mutual
def spec_QRPatterns.l0:Nat->Int->Int->Int->List Int->List (List Bool)->Int->Int->Option ((List (List Bool)))
 | 0,_,_,_,_,_,_,_=>none
 | k+1,x0,x7,x8,x9,x10,x23,x24=>if x24<x23 then (if 0<=x7 then (if (x7:Int).toNat<=281474976710656 then (if 0<=x24 then (if x24<(x10.length:Int) then ((some (x10.set (x24:Int).toNat (List.replicate (x7:Int).toNat false):List (List Bool))).bind fun y330=>(spec_QRPatterns.l1 k x0 x7 x8 x9 y330 x24 x23 x24 ((rd_L1 y330 x24).length:Int) 0)) else (none)) else (none)) else (none)) else (none)) else (some x10)
def spec_QRPatterns.l1:Nat->Int->Int->Int->List Int->List (List Bool)->Int->Int->Int->Int->Int->Option ((List (List Bool)))
 | 0,_,_,_,_,_,_,_,_,_,_=>none
 | k+1,x0,x7,x8,x9,x10,x11,x23,x24,x36,x37=>if x37<x36 then (if 0<=x11 then (if x11<(x10.length:Int) then ((spec_qrGiven.f k x0 x9 x11 x37).bind fun t333=>(if t333=true then ((spec_qrPattern.f k x0 x8 x9 x11 x37).bind fun t334=>(if 0<=x37 then (if x37<((rd_L1 x10 x11).length:Int) then (spec_QRPatterns.l1 k x0 x7 x8 x9 (x10.set (x11:Int).toNat ((rd_L1 x10 x11).set (x37:Int).toNat t334)) x11 x23 x24 x36 (wrap64 (x37+1))) else (none)) else (none))) else (if 0<=x37 then (if x37<((rd_L1 x10 x11).length:Int) then (spec_QRPatterns.l1 k x0 x7 x8 x9 (x10.set (x11:Int).toNat ((rd_L1 x10 x11).set (x37:Int).toNat false)) x11 x23 x24 x36 (wrap64 (x37+1))) else (none)) else (none)))) else (none)) else (none)) else (spec_QRPatterns.l0 k x0 x7 x8 x9 x10 x23 (wrap64 (x24+1)))
end
def spec_QRPatterns.f (k:Nat)(a0:Int)(a1:Int)(a2:Int):Option ((List (List Bool))):=(spec_QRDimension.f a0).bind fun t319=>((spec_QRFormatBits.f k a1 a2).bind fun t320=>((spec_QRCenters.f k a0).bind fun t321=>(if 0<=t319 then (if (t319:Int).toNat<=11728124029610 then ((some (List.replicate (t319:Int).toNat []:List (List Bool))).bind fun y324=>(spec_QRPatterns.l0 k a0 t319 t320 t321 y324 (y324.length:Int) 0)) else (none)) else (none))))
theorem spec_QRPatterns.mono_l:∀ k,(∀ y0 y1 y2 y3 y4 y5 y6,LeO (spec_QRPatterns.l0 k y0 y1 y2 y3 y4 y5 y6) (spec_QRPatterns.l0 (k+1) y0 y1 y2 y3 y4 y5 y6))/\(∀ y0 y1 y2 y3 y4 y5 y6 y7 y8 y9,LeO (spec_QRPatterns.l1 k y0 y1 y2 y3 y4 y5 y6 y7 y8 y9) (spec_QRPatterns.l1 (k+1) y0 y1 y2 y3 y4 y5 y6 y7 y8 y9))
 | 0=>⟨fun _ _ _ _ _ _ _ r h=>by simp [spec_QRPatterns.l0] at h,fun _ _ _ _ _ _ _ _ _ _ r h=>by simp [spec_QRPatterns.l1] at h⟩
 | k+1=>by
  obtain⟨ih0,ih1⟩:=spec_QRPatterns.mono_l k
  refine⟨?_,?_⟩
  ·intro y0 y1 y2 y3 y4 y5 y6
   unfold spec_QRPatterns.l0
   repeat' first
   | (with_reducible exact ih0 _ _ _ _ _ _ _)
   | (with_reducible exact ih1 _ _ _ _ _ _ _ _ _ _)
   | (with_reducible exact spec_QRCenters.mono _ _)
   | (with_reducible exact spec_QRFormatBits.mono _ _ _)
   | (with_reducible exact spec_qrGiven.mono _ _ _ _ _)
   | (with_reducible exact spec_qrPattern.mono _ _ _ _ _ _)
   | (with_reducible exact LeO.refl _)
   | (with_reducible exact LeO.none _)
   | (with_reducible refine LeO.ite ?_ ?_)
   | (with_reducible refine LeO.bind ?_ (fun _=>?_))
   | exact ih0 _ _ _ _ _ _ _
   | exact ih1 _ _ _ _ _ _ _ _ _ _
   | exact spec_QRCenters.mono _ _
   | exact spec_QRFormatBits.mono _ _ _
   | exact spec_qrGiven.mono _ _ _ _ _
   | exact spec_qrPattern.mono _ _ _ _ _ _
   | exact LeO.none _
   | refine LeO.ite ?_ ?_
   | refine LeO.bind ?_ (fun _=>?_)
  ·intro y0 y1 y2 y3 y4 y5 y6 y7 y8 y9
   unfold spec_QRPatterns.l1
   repeat' first
   | (with_reducible exact ih0 _ _ _ _ _ _ _)
   | (with_reducible exact ih1 _ _ _ _ _ _ _ _ _ _)
   | (with_reducible exact spec_QRCenters.mono _ _)
   | (with_reducible exact spec_QRFormatBits.mono _ _ _)
   | (with_reducible exact spec_qrGiven.mono _ _ _ _ _)
   | (with_reducible exact spec_qrPattern.mono _ _ _ _ _ _)
   | (with_reducible exact LeO.refl _)
   | (with_reducible exact LeO.none _)
   | (with_reducible refine LeO.ite ?_ ?_)
   | (with_reducible refine LeO.bind ?_ (fun _=>?_))
   | exact ih0 _ _ _ _ _ _ _
   | exact ih1 _ _ _ _ _ _ _ _ _ _
   | exact spec_QRCenters.mono _ _
   | exact spec_QRFormatBits.mono _ _ _
   | exact spec_qrGiven.mono _ _ _ _ _
   | exact spec_qrPattern.mono _ _ _ _ _ _
   | exact LeO.none _
   | refine LeO.ite ?_ ?_
   | refine LeO.bind ?_ (fun _=>?_)
theorem spec_QRPatterns.mono:∀ a0 a1 a2 k,LeO (spec_QRPatterns.f k a0 a1 a2) (spec_QRPatterns.f (k+1) a0 a1 a2):=by
 intro a0 a1 a2 k
 obtain⟨ih0,ih1⟩:=spec_QRPatterns.mono_l k
 unfold spec_QRPatterns.f
 repeat' first
   | (with_reducible exact ih0 _ _ _ _ _ _ _)
   | (with_reducible exact ih1 _ _ _ _ _ _ _ _ _ _)
   | (with_reducible exact spec_QRCenters.mono _ _)
   | (with_reducible exact spec_QRFormatBits.mono _ _ _)
   | (with_reducible exact spec_qrGiven.mono _ _ _ _ _)
   | (with_reducible exact spec_qrPattern.mono _ _ _ _ _ _)
   | (with_reducible exact LeO.refl _)
   | (with_reducible exact LeO.none _)
   | (with_reducible refine LeO.ite ?_ ?_)
   | (with_reducible refine LeO.bind ?_ (fun _=>?_))
   | exact ih0 _ _ _ _ _ _ _
   | exact ih1 _ _ _ _ _ _ _ _ _ _
   | exact spec_QRCenters.mono _ _
   | exact spec_QRFormatBits.mono _ _ _
   | exact spec_qrGiven.mono _ _ _ _ _
   | exact spec_qrPattern.mono _ _ _ _ _ _
   | exact LeO.none _
   | refine LeO.ite ?_ ?_
   | refine LeO.bind ?_ (fun _=>?_)
def spec_QRPatterns.T12:Bool×List (List Nat×List Nat):=(true,[([],[]),([],[]),([0,1],[0,1]),([2],[2]),([],[]),([],[]),([],[]),([],[]),([],[]),([5,6,7,8],[5,6,7,8]),([9,9],[9]),([10],[10]),([10],[10]),([10],[10]),([10],[10]),([10],[10]),([11,12,13,14,15,10,10],[10,11,12,13,14,15]),([10,16],[10,16]),([3,4,0,1,2,3,4,5,6,7,8,9,10,11,12,13,14,15,16,17],[3,4]),([18,17,16,0,1,2,3,4,5,6,7,8,9,10,11,12,13,14,15,16,17],[17,18])])
def spec_QRPatterns.B12:List Nat:=[0,0,3,7,0,0,0,0,0,480,992,2016,2016,2016,2016,2016,65504,131040,262143,524287]
theorem spec_QRPatterns.tab12:rtab .any (opsOf Tryz.f15 12)=spec_QRPatterns.T12:=by kernel_rfl
theorem spec_QRPatterns.bits12:waitsOk spec_QRPatterns.T12.2 spec_QRPatterns.B12=true:=by kernel_rfl
set_option maxHeartbeats 8000000 in
set_option maxRecDepth 100000 in
theorem spec_QRPatterns.calls (k:Nat)(a0:Int)(a1:Int)(a2:Int)(r:List (List Bool))(w:World)(h:spec_QRPatterns.f k a0 a1 a2=some r) :
  Calls Tryz.prog 15 #[.int .i64 a0,.int .i64 a1,.int .i64 a2] w fun e w'=>∃ v0_:Value,e=.returned (v0_)/\Kd.S (Kd.slice 4 Kd.bool) 45 w' w.heap.size (fun _=>True) v0_ r/\Below w.heap.size w w':=by
 have HB:=Aside0.mk (Below.refl w.heap.size w)
 have H:((spec_QRDimension.f a0).bind fun t319=>((spec_QRFormatBits.f k a1 a2).bind fun t320=>((spec_QRCenters.f k a0).bind fun t321=>(if 0<=t319 then (if (t319:Int).toNat<=11728124029610 then ((some (List.replicate (t319:Int).toNat []:List (List Bool))).bind fun y324=>(spec_QRPatterns.l0 k a0 t319 t320 t321 y324 (y324.length:Int) 0)) else (none)) else (none)))))=some r:=h
 clear h
 replace H:=Option.bind_eq_some_iff.mp H
 obtain⟨t319,A40,H⟩:=H
 replace H:((spec_QRFormatBits.f k a1 a2).bind fun t320=>((spec_QRCenters.f k a0).bind fun t321=>(if 0<=t319 then (if (t319:Int).toNat<=11728124029610 then ((some (List.replicate (t319:Int).toNat []:List (List Bool))).bind fun y324=>(spec_QRPatterns.l0 k a0 t319 t320 t321 y324 (y324.length:Int) 0)) else (none)) else (none))))=some r:=H
 have A4:=Aside0.mk A40
 clear A40
 replace H:=Option.bind_eq_some_iff.mp H
 obtain⟨t320,A50,H⟩:=H
 replace H:((spec_QRCenters.f k a0).bind fun t321=>(if 0<=t319 then (if (t319:Int).toNat<=11728124029610 then ((some (List.replicate (t319:Int).toNat []:List (List Bool))).bind fun y324=>(spec_QRPatterns.l0 k a0 t319 t320 t321 y324 (y324.length:Int) 0)) else (none)) else (none)))=some r:=H
 have A5:=Aside0.mk A50
 clear A50
 replace H:=Option.bind_eq_some_iff.mp H
 obtain⟨t321,A60,H⟩:=H
 replace H:(if 0<=t319 then (if (t319:Int).toNat<=11728124029610 then ((some (List.replicate (t319:Int).toNat []:List (List Bool))).bind fun y324=>(spec_QRPatterns.l0 k a0 t319 t320 t321 y324 (y324.length:Int) 0)) else (none)) else (none))=some r:=H
 have A6:=Aside0.mk A60
 clear A60
 by_cases c7:0<=t319
 ·rw [if_pos c7] at H
  have c7b0:=eq_true c7
  have c7b1:decide (0<=t319)=true:=decide_eq_true c7
  clear c7
  by_cases c8:(t319:Int).toNat<=11728124029610
  ·rw [if_pos c8] at H
   have c8b0:=eq_true c8
   have c8b1:decide ((t319:Int).toNat<=11728124029610)=true:=decide_eq_true c8
   clear c8
   obtain⟨y324,hy324⟩:∃ y_:List (List Bool),y_=(List.replicate (t319:Int).toNat []):=⟨_,rfl⟩
   replace H:(spec_QRPatterns.l0 k a0 t319 t320 t321 y324 (y324.length:Int) 0)=some r:=by first | (rw [hy324];with_reducible exact H) | (have H2_:=(Option.bind_some _ _).symm.trans H;rw [hy324];with_reducible exact H2_) | (have H2_:=(Option.bind_some _ _).symm.trans H;with_reducible exact H2_) | with_reducible exact H | (rw [hy324];exact H) | exact H
   have Ny324:=Aside0.mk hy324
   clear hy324
   have H':=Aside0.mk H
   clear H
   go_enter Tryz.func15,Tryz.ntmps15
   go_wp2_with (first | ((with_reducible refine gate_callee (f:=46) rfl ?_);refine goesL_ (some 14) rfl rfl Tryz.func46 (by kernel_rfl) rfl #[.int .i64 a0] rfl (by (try simp only [List.map_toArray,List.map_cons,List.map_nil]);first | done | rfl | (simp only [List.length_drop,List.length_take];rfl)) ?_;(with_reducible refine (spec_QRDimension.calls a0 t319 _ A4.out).mono ?_);rintro e w' ⟨rfl,⟨nd,rfl⟩⟩;refine⟨_,rfl,?_⟩) | ((with_reducible refine gate_callee (f:=47) rfl ?_);refine goesL_ (some 17) rfl rfl Tryz.func47 (by kernel_rfl) rfl #[.int .i64 a1,.int .i64 a2] rfl (by (try simp only [List.map_toArray,List.map_cons,List.map_nil]);first | done | rfl | (simp only [List.length_drop,List.length_take];rfl)) ?_;(with_reducible refine (spec_QRFormatBits.calls k a1 a2 t320 _ A5.out).mono ?_);rintro e w' ⟨rfl,⟨nd,rfl⟩⟩;refine⟨_,rfl,?_⟩) | ((with_reducible refine gate_callee (f:=48) rfl ?_);refine goesL_ (some 19) rfl rfl Tryz.func48 (by kernel_rfl) rfl #[.int .i64 a0] rfl (by (try simp only [List.map_toArray,List.map_cons,List.map_nil]);first | done | rfl | (simp only [List.length_drop,List.length_take];rfl)) ?_;(with_reducible refine (spec_QRCenters.calls k a0 t321 _ A6.out).mono ?_);rintro e w9 ⟨v322,rfl,ho0,hb⟩;refine⟨_,rfl,?_⟩;have n0_:=Aside0.mk (Kd.R_lower ho0 (below_size (by repeat (first | (with_reducible first | exact HB.out | apply below_alloc | apply pw_below_drewN | apply below_drew1) | exact HB.out))));have n1_:=Aside0.mk (below_step (by repeat (first | (with_reducible first | exact HB.out | apply below_alloc | apply pw_below_drewN | apply below_drew1) | exact HB.out)) hb);clear HB;have HO323:=n0_;have HB:=n1_;clear n0_ n1_;(try clear hb);(try clear hb2);(try clear hk);(try clear hi);(try clear ho0)) | ((with_reducible refine gate_dst (N:=21) rfl ?_);refine Kd.S_make (Kd.slice 4 Kd.bool) _ 45 rfl (N:=21) rfl 22 _ _ rfl t319 rfl rfl Tryz.underlying22 (.slice none 0 0) 24 info45 rfl (by decide) (by omega) [] (ok:=fun _=>True) (okp:=fun _=>True) ⟨_,rfl,Kd.R_nil _ _ _ _ _⟩ (fun _ hk=>hk) trivial (of_decide_eq_true (by first | (with_reducible assumption) | assumption)) (Nat.le_trans (Nat.mul_le_mul_right _ (of_decide_eq_true (by first | (with_reducible assumption) | assumption):t319.toNat<=11728124029610)) (by omega)) (Below.refl _ _) (Nat.le_refl _) ?_;intro v325 w10 ho11 hb hg_ hnew_;clear hg_ hnew_;(first | rw [<- Ny324.out] at ho11 | (simp only [Int.reduceToNat] at ho11;rw [<- Ny324.out] at ho11));have n0_:=Aside0.mk (Kd.R_below (by (with_reducible repeat (first | apply Kd.R_alloc | apply Kd.R_drewN | apply Kd.R_drew));exact HO323.out) hb);have n1_:=Aside0.mk (Kd.S_lower ho11 (below_size (by repeat (first | (with_reducible first | exact HB.out | apply below_alloc | apply pw_below_drewN | apply below_drew1) | exact HB.out))));have n2_:=Aside0.mk (below_step (by repeat (first | (with_reducible first | exact HB.out | apply below_alloc | apply pw_below_drewN | apply below_drew1) | exact HB.out)) hb);clear HO323;clear HB;have HO323:=n0_;have HO326:=n1_;have HB:=n2_;clear n0_ n1_ n2_;clear hb ho11;obtain⟨Ao12,co12,eo12⟩:=Kd.S_slice HO326.out;subst eo12))
   go_loopg [24] k (fun kq v24 w'=>∃ (x10_1:List (List Bool)) (x24_1:Int),v24=.int .i64 x24_1/\Aside0 (spec_QRPatterns.l0 kq a0 t319 t320 t321 x10_1 (y324.length:Int) x24_1=some r)/\Aside0 (kq<=k)/\Aside0 (Kd.R (Kd.int .i64) 3 w' w.heap.size (fun _=>True) v322 t321)/\Aside0 (Kd.S (Kd.slice 4 Kd.bool) 45 w' w.heap.size (fun _=>True) (.slice Ao12 y324.length co12) x10_1)/\Aside0 (Below w.heap.size w w'))
   case atStart=>exact⟨(y324),(0),(by first | rfl | (simp;done) | (simp [*];done)),H',⟨Nat.le_refl _⟩,⟨by (with_reducible repeat (first | apply Kd.R_alloc | apply Kd.R_drewN | apply Kd.R_drew));exact HO323.out⟩,⟨by (with_reducible repeat (first | apply Kd.S_alloc | apply Kd.S_drewN | apply Kd.S_drew));exact HO326.out⟩,⟨by repeat (first | (with_reducible first | exact HB.out | apply below_alloc | apply pw_below_drewN | apply below_drew1) | exact HB.out)⟩⟩
   case round=>
    clear H'
    try clear c1
    try clear p2
    try clear c4
    try clear c7
    try clear c7b0
    try clear c7b1
    try clear c8
    try clear c8b0
    try clear c8b1
    obtain⟨x10_1,x24_1,rfl,HA,HK1,HO_9,HO_10,HB⟩:=hrel
    have hl10_1:=(Kd.S_reads' HO_10.out).1
    rw [hl10_1] at HO_10
    (try simp only [hl10_1])
    (try simp only [hl10_1] at HO_9)
    cases gk with
    | zero=>exact absurd HA.out (by simp [spec_QRPatterns.l0])
    | succ k1=>
     have H:=HA.out
     clear HA
     simp only [spec_QRPatterns.l0] at H
     by_cases c13:x24_1<(y324.length:Int)
     ·rw [if_pos c13] at H
      have c13b0:decide (x24_1<(y324.length:Int))=true:=decide_eq_true c13
      clear c13
      by_cases c14:0<=t319
      ·rw [if_pos c14] at H
       have c14b0:=eq_true c14
       have c14b1:decide (0<=t319)=true:=decide_eq_true c14
       clear c14
       by_cases c15:(t319:Int).toNat<=281474976710656
       ·rw [if_pos c15] at H
        have c15b0:=eq_true c15
        have c15b1:decide ((t319:Int).toNat<=281474976710656)=true:=decide_eq_true c15
        clear c15
        obtain⟨y327,hy327⟩:∃ y_:List Bool,y_=(List.replicate (t319:Int).toNat false):=⟨_,rfl⟩
        replace H:(if 0<=x24_1 then (if x24_1<(x10_1.length:Int) then ((some (x10_1.set (x24_1:Int).toNat y327:List (List Bool))).bind fun y330=>(spec_QRPatterns.l1 k1 a0 t319 t320 t321 y330 x24_1 (y324.length:Int) x24_1 ((rd_L1 y330 x24_1).length:Int) 0)) else (none)) else (none))=some r:=by first | (rw [hy327];with_reducible exact H) | (have H2_:=(Option.bind_some _ _).symm.trans H;rw [hy327];with_reducible exact H2_) | (have H2_:=(Option.bind_some _ _).symm.trans H;with_reducible exact H2_) | with_reducible exact H | (rw [hy327];exact H) | exact H
        have Ny327:=Aside0.mk hy327
        clear hy327
        by_cases c16:0<=x24_1
        ·rw [if_pos c16] at H
         have c16b0:decide (0<=x24_1)=true:=decide_eq_true c16
         clear c16
         by_cases c17:x24_1<(x10_1.length:Int)
         ·rw [if_pos c17] at H
          have c17b0:decide (x24_1<(x10_1.length:Int))=true:=decide_eq_true c17
          clear c17
          obtain⟨y330,hy330⟩:∃ y_:List (List Bool),y_=(x10_1.set (x24_1:Int).toNat y327):=⟨_,rfl⟩
          replace H:(spec_QRPatterns.l1 k1 a0 t319 t320 t321 y330 x24_1 (y324.length:Int) x24_1 ((rd_L1 y330 x24_1).length:Int) 0)=some r:=by first | (rw [hy330];with_reducible exact H) | (have H2_:=(Option.bind_some _ _).symm.trans H;rw [hy330];with_reducible exact H2_) | (have H2_:=(Option.bind_some _ _).symm.trans H;with_reducible exact H2_) | with_reducible exact H | (rw [hy330];exact H) | exact H
          have Ny330:=Aside0.mk hy330
          clear hy330
          have H':=Aside0.mk H
          clear H
          go_wp2_with (first | ((with_reducible refine gate_dst (N:=30) rfl ?_);refine Kd.R_make Kd.bool _ 4 rfl (N:=30) rfl 45 _ _ rfl t319 rfl rfl Tryz.underlying45 (.bool false) 1 info4 rfl (by decide) (by omega) false (ok:=fun _=>True) (okp:=fun _=>True) rfl (fun _ hk=>hk) trivial (of_decide_eq_true (by first | (with_reducible assumption) | assumption)) (Nat.le_trans (Nat.mul_le_mul_right _ (of_decide_eq_true (by first | (with_reducible assumption) | assumption):t319.toNat<=281474976710656)) (by omega)) (Below.refl _ _) (Nat.le_refl _) ?_;intro v328 w19 ho20 hb hg_ hnew_;clear hg_ hnew_;(first | rw [<- Ny327.out] at ho20 | (simp only [Int.reduceToNat] at ho20;rw [<- Ny327.out] at ho20));have n0_:=Aside0.mk (Kd.R_below (by (with_reducible repeat (first | apply Kd.R_alloc | apply Kd.R_drewN | apply Kd.R_drew));exact HO_9.out) hb);have n1_:=Aside0.mk (Kd.S_elder' (by (with_reducible repeat (first | apply Kd.S_alloc | apply Kd.S_drewN | apply Kd.S_drew));exact HO_10.out) (Kd.R_base ho20) hb);have n2_:=Aside0.mk (Kd.R_lower ho20 (below_size (by repeat (first | (with_reducible first | exact HB.out | apply below_alloc | apply pw_below_drewN | apply below_drew1) | exact HB.out))));have n3_:=Aside0.mk (below_step (by repeat (first | (with_reducible first | exact HB.out | apply below_alloc | apply pw_below_drewN | apply below_drew1) | exact HB.out)) hb);clear HO_9;clear HO_10;clear HB;have HO_9:=n0_;have HO_10:=n1_;have HO329:=n2_;have HB:=n3_;clear n0_ n1_ n2_ n3_;clear hb ho20;have p18:0<=(x24_1:Int):=of_decide_eq_true (by first | (with_reducible assumption) | assumption);have q18:(x24_1:Int)<((x10_1.length:Int):Int):=of_decide_eq_true (by first | (with_reducible assumption) | assumption);obtain⟨go18,co18,eo18,gb18,gl18,cl18,HG18⟩:=Kd.S_form HO_10.out (by omega);(first | cases eo18 | (injection eo18 with ea_ en_ ec_;(first | subst ea_ | (injection ea_ with ea_;subst ea_));subst ec_;clear en_));have GB18:=Aside0.mk gb18;have GG18:=Aside0.mk HG18;clear gb18 gl18 HG18;obtain⟨_,ce18,hcl18,hM18,hcc18,hfr18,_,_⟩:=Kd.S_elem HO_10.out [] (x24_1:Int) p18 q18;obtain⟨ve18_0,rfl,ge18_0⟩:=hM18;have hx18_0:=hcc18 0 _ rfl;have hf18_0:=hfr18 0;(try simp only [show ((Kd.slice 4 Kd.bool)).sz=1 from rfl,Nat.mul_one,Nat.add_zero] at hx18_0);(try simp only [show ((Kd.slice 4 Kd.bool)).sz=1 from rfl,Nat.mul_one,Nat.add_zero] at hf18_0);clear hcl18 hcc18 hfr18;(try clear hM18);replace p18:=eq_true p18;replace q18:=eq_true q18;have n_:=Aside0.mk (Kd.S_mono (ok':=(fun k_=>some k_≠(v328:Value).ownBlock)) HO_10.out (fun k_ hk=>hk.2));clear HO_10;have HO_10:=n_;clear n_;have HX21:=Aside0.mk (show Kd.S (Kd.slice 4 Kd.bool) 45 w19 w.heap.size (fun k_=>((fun _=>True)) k_/\¬ ((fun k_=>some k_=(v328:Value).ownBlock)) k_) (.slice (some ⟨go18,0,none⟩) x10_1.length co12) x10_1 from (by (with_reducible repeat (first | apply Kd.S_alloc | apply Kd.S_drewN | apply Kd.S_drew));exact Kd.S_mono HO_10.out (fun k_ hk=>⟨trivial,fun e_=>hk e_⟩)));obtain⟨oki21,ce21,hcl21,hM21,hcc21,hfr21,hoki21,hH21⟩:=Kd.S_elem HX21.out [] (x24_1:Int) (of_decide_eq_true (by first | (with_reducible assumption) | assumption)) (by have h_:(x24_1:Int)<((x10_1.length:Int):Int):=of_decide_eq_true (by first | (with_reducible assumption) | assumption);first | exact h_ | (have e_:=(Kd.S_reads' HO_10.out).1;omega) | simpa using h_);obtain⟨ve21_0,rfl,ge21_0⟩:=hM21;have HP21:=Kd.S_seg hH21 (of_decide_eq_true (by first | (with_reducible assumption) | assumption)) (by have h_:(x24_1:Int)<((x10_1.length:Int):Int):=of_decide_eq_true (by first | (with_reducible assumption) | assumption);first | exact h_ | (have e_:=(Kd.S_reads' HO_10.out).1;omega) | simpa using h_) (seg:=[v328]) (j:=0) (show 1<=1 from by decide) (x':=y327) (Kd.M_row (Kd.R_mono (Kd.R_tight rfl (Kd.R_mono (ok':=fun k_=>((fun _=>True)) k_/\k_≠go18) (Kd.R_apart' (HO329.out) (Kd.S_typed HO_10.out) (by decide)) (fun k_ hk=>⟨trivial,fun e_=>(hk.2) (by rw [e_];rfl)⟩))) (fun _ h_=>Or.inr (h_)))) (fun _ hk=>hk) (fun k_ hk_=>((Kd.R_mono (ok':=fun k_=>((fun _=>True)) k_/\k_≠go18) (Kd.R_apart' (HO329.out) (Kd.S_typed HO_10.out) (by decide)) (fun k_ hk=>⟨trivial,fun e_=>(hk.2) (by rw [e_];rfl)⟩))).1 k_ hk_.symm);have hx21_0:=hcc21 0 _ rfl;(try simp only [show ((Kd.slice 4 Kd.bool)).sz=1 from rfl,Nat.mul_one,Nat.add_zero] at hx21_0);have hf21_0:=hfr21 0;(try simp only [show ((Kd.slice 4 Kd.bool)).sz=1 from rfl,Nat.mul_one,Nat.add_zero] at hf21_0);clear hcl21 hcc21 hfr21 hoki21 hH21;(try clear hM21);(try simp only [show ((Kd.slice 4 Kd.bool)).sz=1 from rfl,Nat.mul_one,Nat.add_zero] at HP21)) | ((with_reducible refine gate_store (t:=45) (p:=31) rfl ?_);refine store_event (t:=45) (p:=31) (v:=?vo_w22) (w1:=(w19.setCell ⟨go18,(x24_1:Int).toNat,none⟩ (v328))) ?hg ?ho ?hn ?hr ?_;(case ho=>rfl);(case hg=>rfl);(case hn=>rfl);(case hr=>first | (go_simp;done) | (go_simp;rfl) | (obtain⟨Av_,cv_,ev_⟩:=Kd.R_slice HO329.out;subst ev_;first | (go_simp;done) | (go_simp;rfl)));intro w22 hw;have hg:w19.grownBy w22 (some go18):=(by rw [hw];exact HP21.2);have hp_:Kd.S (Kd.slice 4 Kd.bool) 45 w22 w.heap.size (fun _=>True) (.slice (some ⟨go18,0,none⟩) x10_1.length co12) y330:=(by rw [hw,Ny330.out];exact HP21.1);clear HP21;have n0_:=Aside0.mk (Kd.R_over' (v:=(.slice (some ⟨go18,0,none⟩) x10_1.length co12)) (by (with_reducible repeat (first | apply Kd.R_alloc | apply Kd.R_drewN | apply Kd.R_drew));exact HO_9.out) (Kd.S_typed HO_10.out) (by decide) hg);have n1_:=Aside0.mk (hp_);have n2_:=Aside0.mk ((by rw [hw];exact below_set (HB.out) GB18.out:Below w.heap.size w w22));clear HO_9;clear HO_10;clear HB;clear HO329;have HO_9:=n0_;have HO_10:=n1_;have HB:=n2_;clear n0_ n1_ n2_;clear hg hw hp_;have p331:0<=(x24_1:Int):=of_decide_eq_true (by first | (with_reducible assumption) | assumption);have q331:x24_1<(y330.length:Int):=(by have h_:(x24_1:Int)<((x10_1.length:Int):Int):=of_decide_eq_true (by first | (with_reducible assumption) | assumption);first | (have e_:=(Kd.S_reads' HO_10.out).1;omega) | simpa only [Ny330.out,List.length_set] using h_);have ql331:((x24_1:Int)<((x10_1.length:Int):Int))=True:=eq_true (of_decide_eq_true (by first | (with_reducible assumption) | assumption));obtain⟨ad331,A331_0,c331_0,e331,hx331_0,hl331_0,hi331_0⟩:=at_L1 (Kd.S_reads' HO_10.out).2.2 x24_1 p331 q331;obtain rfl:(⟨go18,0,none⟩:Addr)=ad331:=(by injection e331);obtain⟨ce331,hce331,hMe331,hcc331⟩:=Kd.S_get HO_10.out [] x24_1 p331 (by first | exact q331 | exact of_decide_eq_true (by first | (with_reducible assumption) | assumption) | (have e_:=(Kd.S_reads' HO_10.out).1;omega));obtain⟨ve331_0,rfl,ge331_0⟩:=hMe331;have hv331_0:=hcc331 0 _ rfl;rw [Nat.add_zero,show ((Kd.slice 4 Kd.bool)).sz=1 from rfl,Nat.mul_one] at hv331_0;replace hv331_0:=Option.some.inj (hv331_0.symm.trans hx331_0);rw [hv331_0] at ge331_0;have HL331_0:=Aside0.mk (show Kd.R Kd.bool 4 _ _ _ _ (rd_L1 y330 x24_1) from ge331_0);clear hv331_0 ge331_0;have HX331_0:=Aside0.mk hx331_0;clear hcc331 hce331;(first | simp only [add_plain] at hx331_0 | simp only [add_at] at hx331_0 | simp only [Addr.add,Nat.zero_add] at hx331_0 | skip);have HR331_0:=Aside0.mk hi331_0;have HC331_0:=Aside0.mk hl331_0;clear hi331_0 hl331_0;replace p331:=eq_true p331;replace q331:=eq_true q331))
          go_loopg [37] k1 (fun kq v37 w'=>∃ (x10_2:List (List Bool)) (x37_2:Int),v37=.int .i64 x37_2/\Aside0 (spec_QRPatterns.l1 kq a0 t319 t320 t321 x10_2 x24_1 (y324.length:Int) x24_1 ((rd_L1 y330 x24_1).length:Int) x37_2=some r)/\Aside0 (kq<=k1)/\Aside0 (Kd.R (Kd.int .i64) 3 w' w.heap.size (fun _=>True) v322 t321)/\Aside0 (Kd.S (Kd.slice 4 Kd.bool) 45 w' w.heap.size (fun _=>True) (.slice (some ⟨go18,0,none⟩) x10_1.length co12) x10_2)/\Aside0 (Below w.heap.size w w'))
          case atStart=>exact⟨(y330),(0),(by first | rfl | (simp;done) | (simp [*];done)),H',⟨Nat.le_refl _⟩,⟨by (try simp only [hl10_1]);(with_reducible repeat (first | apply Kd.R_alloc | apply Kd.R_drewN | apply Kd.R_drew));exact HO_9.out⟩,⟨by (try simp only [hl10_1]);(with_reducible repeat (first | apply Kd.S_alloc | apply Kd.S_drewN | apply Kd.S_drew));exact HO_10.out⟩,⟨by repeat (first | (with_reducible first | exact HB.out | apply below_alloc | apply pw_below_drewN | apply below_drew1) | exact HB.out)⟩⟩
          case round=>
           clear H'
           try clear c1
           try clear p1
           try clear q1
           try clear hx1
           try clear c2
           try clear p2
           try clear hx2
           try clear c3
           try clear p3
           try clear q3
           try clear hx3
           try clear c4
           try clear c7
           try clear c7b0
           try clear c7b1
           try clear c8
           try clear c8b0
           try clear c8b1
           try clear c13
           try clear c13b0
           try clear c14
           try clear c14b0
           try clear c14b1
           try clear c15
           try clear c15b0
           try clear c15b1
           try clear c16
           try clear c16b0
           try clear c17
           try clear c17b0
           try clear c18
           try clear p18
           try clear q18
           try clear hx18
           try clear hf18
           try clear c21
           try clear hx21
           try clear hf21
           try clear hx18_0
           try clear hx21_0
           try clear hx331_0
           try clear p18
           try clear p2
           try clear p331
           try clear q18
           try clear q331
           obtain⟨x10_2,x37_2,rfl,HA,HK2,HO_9,HO_10,HB⟩:=hrel
           have hl10_2:=(Kd.S_reads' HO_10.out).1
           rw [hl10_2] at HO_10
           (try simp only [hl10_2])
           (try simp only [hl10_2] at HO_9)
           cases gk with
           | zero=>exact absurd HA.out (by simp [spec_QRPatterns.l1])
           | succ k2=>
            have H:=HA.out
            clear HA
            simp only [spec_QRPatterns.l1] at H
            by_cases c23:x37_2<((rd_L1 y330 x24_1).length:Int)
            ·rw [if_pos c23] at H
             have c23b0:decide (x37_2<((rd_L1 y330 x24_1).length:Int))=true:=decide_eq_true c23
             clear c23
             by_cases c24:0<=x24_1
             ·rw [if_pos c24] at H
              have c24b0:decide (0<=x24_1)=true:=decide_eq_true c24
              clear c24
              by_cases c25:x24_1<(x10_2.length:Int)
              ·rw [if_pos c25] at H
               have c25b0:decide (x24_1<(x10_2.length:Int))=true:=decide_eq_true c25
               clear c25
               replace H:=Option.bind_eq_some_iff.mp H
               obtain⟨t333,A260,H⟩:=H
               replace H:(if t333=true then ((spec_qrPattern.f k2 a0 t320 t321 x24_1 x37_2).bind fun t334=>(if 0<=x37_2 then (if x37_2<((rd_L1 x10_2 x24_1).length:Int) then (spec_QRPatterns.l1 k2 a0 t319 t320 t321 (x10_2.set (x24_1:Int).toNat ((rd_L1 x10_2 x24_1).set (x37_2:Int).toNat t334)) x24_1 (y324.length:Int) x24_1 ((rd_L1 y330 x24_1).length:Int) (wrap64 (x37_2+1))) else (none)) else (none))) else (if 0<=x37_2 then (if x37_2<((rd_L1 x10_2 x24_1).length:Int) then (spec_QRPatterns.l1 k2 a0 t319 t320 t321 (x10_2.set (x24_1:Int).toNat ((rd_L1 x10_2 x24_1).set (x37_2:Int).toNat false)) x24_1 (y324.length:Int) x24_1 ((rd_L1 y330 x24_1).length:Int) (wrap64 (x37_2+1))) else (none)) else (none)))=some r:=H
               have A26:=Aside0.mk A260
               clear A260
               by_cases c27:t333=true
               ·subst c27
                have H1:((spec_qrPattern.f k2 a0 t320 t321 x24_1 x37_2).bind fun t334=>(if 0<=x37_2 then (if x37_2<((rd_L1 x10_2 x24_1).length:Int) then (spec_QRPatterns.l1 k2 a0 t319 t320 t321 (x10_2.set (x24_1:Int).toNat ((rd_L1 x10_2 x24_1).set (x37_2:Int).toNat t334)) x24_1 (y324.length:Int) x24_1 ((rd_L1 y330 x24_1).length:Int) (wrap64 (x37_2+1))) else (none)) else (none)))=some r:=by rw [if_pos rfl] at H;exact H
                clear H
                have H:=H1
                clear H1
                replace H:=Option.bind_eq_some_iff.mp H
                obtain⟨t334,A280,H⟩:=H
                replace H:(if 0<=x37_2 then (if x37_2<((rd_L1 x10_2 x24_1).length:Int) then (spec_QRPatterns.l1 k2 a0 t319 t320 t321 (x10_2.set (x24_1:Int).toNat ((rd_L1 x10_2 x24_1).set (x37_2:Int).toNat t334)) x24_1 (y324.length:Int) x24_1 ((rd_L1 y330 x24_1).length:Int) (wrap64 (x37_2+1))) else (none)) else (none))=some r:=H
                have A28:=Aside0.mk A280
                clear A280
                by_cases c29:0<=x37_2
                ·rw [if_pos c29] at H
                 have c29b0:decide (0<=x37_2)=true:=decide_eq_true c29
                 clear c29
                 by_cases c30:x37_2<((rd_L1 x10_2 x24_1).length:Int)
                 ·rw [if_pos c30] at H
                  have c30b0:decide (x37_2<((rd_L1 x10_2 x24_1).length:Int))=true:=decide_eq_true c30
                  clear c30
                  obtain⟨y335,hy335⟩:∃ y_:List Bool,y_=((rd_L1 x10_2 x24_1).set (x37_2:Int).toNat t334):=⟨_,rfl⟩
                  replace H:(spec_QRPatterns.l1 k2 a0 t319 t320 t321 (x10_2.set (x24_1:Int).toNat y335) x24_1 (y324.length:Int) x24_1 ((rd_L1 y330 x24_1).length:Int) (wrap64 (x37_2+1)))=some r:=by first | (rw [hy335];with_reducible exact H) | (have H2_:=(Option.bind_some _ _).symm.trans H;rw [hy335];with_reducible exact H2_) | (have H2_:=(Option.bind_some _ _).symm.trans H;with_reducible exact H2_) | with_reducible exact H | (rw [hy335];exact H) | exact H
                  have Ny335:=Aside0.mk hy335
                  clear hy335
                  obtain⟨y337,hy337⟩:∃ y_:List (List Bool),y_=(x10_2.set (x24_1:Int).toNat y335):=⟨_,rfl⟩
                  replace H:(spec_QRPatterns.l1 k2 a0 t319 t320 t321 y337 x24_1 (y324.length:Int) x24_1 ((rd_L1 y330 x24_1).length:Int) (wrap64 (x37_2+1)))=some r:=by first | (rw [hy337];with_reducible exact H) | (have H2_:=(Option.bind_some _ _).symm.trans H;rw [hy337];with_reducible exact H2_) | (have H2_:=(Option.bind_some _ _).symm.trans H;with_reducible exact H2_) | with_reducible exact H | (rw [hy337];exact H) | exact H
                  have Ny337:=Aside0.mk hy337
                  clear hy337
                  have H':=Aside0.mk H
                  clear H
                  try go_wp2
                  have n0_:=Aside0.mk (Kd.R_drew HO_9.out)
                  have n1_:=Aside0.mk (Kd.S_drew HO_10.out)
                  have n2_:=Aside0.mk (below_drew1 HB.out)
                  clear HO_9
                  clear HO_10
                  clear HB
                  have HO_9:=n0_
                  have HO_10:=n1_
                  have HB:=n2_
                  clear n0_ n1_ n2_
                  have p332:0<=(x24_1:Int):=of_decide_eq_true (by first | (with_reducible assumption) | assumption)
                  have q332:x24_1<(x10_2.length:Int):=of_decide_eq_true (by first | (with_reducible assumption) | assumption)
                  obtain⟨ad332,A332_0,c332_0,e332,hx332_0,hl332_0,hi332_0⟩:=at_L1 (Kd.S_reads' HO_10.out).2.2 x24_1 p332 q332
                  obtain rfl:(⟨go18,0,none⟩:Addr)=ad332:=(by injection e332)
                  obtain⟨ce332,hce332,hMe332,hcc332⟩:=Kd.S_get HO_10.out [] x24_1 p332 (by first | exact q332 | exact of_decide_eq_true (by first | (with_reducible assumption) | assumption) | (have e_:=(Kd.S_reads' HO_10.out).1;omega))
                  obtain⟨ve332_0,rfl,ge332_0⟩:=hMe332
                  have hv332_0:=hcc332 0 _ rfl
                  rw [Nat.add_zero,show ((Kd.slice 4 Kd.bool)).sz=1 from rfl,Nat.mul_one] at hv332_0
                  replace hv332_0:=Option.some.inj (hv332_0.symm.trans hx332_0)
                  rw [hv332_0] at ge332_0
                  have HL332_0:=Aside0.mk (show Kd.R Kd.bool 4 _ _ _ _ (rd_L1 x10_2 x24_1) from ge332_0)
                  clear hv332_0 ge332_0
                  have HX332_0:=Aside0.mk hx332_0
                  clear hcc332 hce332
                  (first | simp only [add_plain] at hx332_0 | simp only [add_at] at hx332_0 | simp only [Addr.add,Nat.zero_add] at hx332_0 | skip)
                  have HR332_0:=Aside0.mk hi332_0
                  have HC332_0:=Aside0.mk hl332_0
                  clear hi332_0 hl332_0
                  replace p332:=eq_true p332
                  replace q332:=eq_true q332
                  obtain⟨Ao33,co33,eo33⟩:=Kd.R_slice HO_9.out
                  (first | subst eo33 | (injection eo33 with f1_ f2_ f3_;have f4_:=f1_.symm;have f5_:=f3_.symm;clear f1_ f2_ f3_;subst f4_;subst f5_))
                  refine start_ (n:=20) (S:=fun w'=>w'.cell? ⟨go18,(x24_1).toNat,none⟩=some (.slice A332_0 (rd_L1 x10_2 x24_1).length c332_0)) (ds:=[19]) #[false,false,false,false,false,false,false,false,false,false,false,false,false,false,false,false,false,false,false,false] (by kernel_rfl) rfl rfl (hx332_0) (fun hHeld=>?_);refine with_tabW spec_QRPatterns.tab12 spec_QRPatterns.bits12 (fun HT_ HW_=>?_)
                  generalize wr.drew=w32 at HO_9 HO_10 HB HL332_0 HR332_0 HX332_0 hx332_0 hHeld ⊢
                  refine pure_ (i:=0) (N:=some 40) (v:=?_) (a':=?_) #[true,false,false,false,false,false,false,false,false,false,false,false,false,false,false,false,false,false,false,false] rfl rfl (any_of HT_.out (by kernel_rfl)) (fun _ _ _ h=>h) (Or.inl ⟨by rfl,?_⟩) ?_ ?_
                  rotate_left
                  ·intro w'
                   go_simp
                   with_reducible rfl
                  rotate_left
                  ·simp only [Act.put,List.setIfInBounds_toArray,List.set_cons_zero,List.set_cons_succ,i64_w,i32_w]
                   rfl
                  refine pure_ (i:=1) (N:=some 41) (v:=?_) (a':=?_) #[true,true,false,false,false,false,false,false,false,false,false,false,false,false,false,false,false,false,false,false] rfl rfl (any_of HT_.out (by kernel_rfl)) (fun _ _ _ h=>h) (Or.inl ⟨by rfl,?_⟩) ?_ ?_
                  rotate_left
                  ·intro w'
                   go_simp
                   with_reducible rfl
                  rotate_left
                  ·simp only [Act.put,List.setIfInBounds_toArray,List.set_cons_zero,List.set_cons_succ,i64_w,i32_w]
                   rfl
                  refine pure_ (i:=2) (N:=some 42) (v:=?_) (a':=?_) #[true,true,true,false,false,false,false,false,false,false,false,false,false,false,false,false,false,false,false,false] rfl rfl (any_of HT_.out (by kernel_rfl)) (fun _ _ _ h=>h) (Or.inl ⟨by rfl,?_⟩) ?_ ?_
                  rotate_left
                  ·intro w'
                   go_simp
                   with_reducible rfl
                  rotate_left
                  ·simp only [Act.put,List.setIfInBounds_toArray,List.set_cons_zero,List.set_cons_succ,i64_w,i32_w]
                   rfl
                  refine pure_ (i:=4) (N:=some 44) (v:=?_) (a':=?_) #[true,true,true,false,true,false,false,false,false,false,false,false,false,false,false,false,false,false,false,false] rfl rfl (any_of HT_.out (by kernel_rfl)) (fun _ _ _ h=>h) (Or.inl ⟨by rfl,?_⟩) ?_ ?_
                  rotate_left
                  ·intro w'
                   go_simp
                   with_reducible rfl
                  rotate_left
                  ·simp only [Act.put,List.setIfInBounds_toArray,List.set_cons_zero,List.set_cons_succ,i64_w,i32_w]
                   rfl
                  refine pure_ (i:=5) (N:=some 45) (v:=?_) (a':=?_) #[true,true,true,false,true,true,false,false,false,false,false,false,false,false,false,false,false,false,false,false] rfl rfl (any_of HT_.out (by kernel_rfl)) (fun _ _ _ h=>h) (Or.inl ⟨by rfl,?_⟩) ?_ ?_
                  rotate_left
                  ·intro w'
                   go_simp
                   with_reducible rfl
                  rotate_left
                  ·simp only [Act.put,List.setIfInBounds_toArray,List.set_cons_zero,List.set_cons_succ,i64_w,i32_w]
                   rfl
                  refine pure_ (i:=6) (N:=some 46) (v:=?_) (a':=?_) #[true,true,true,false,true,true,true,false,false,false,false,false,false,false,false,false,false,false,false,false] rfl rfl (any_of HT_.out (by kernel_rfl)) (fun _ _ _ h=>h) (Or.inl ⟨by rfl,?_⟩) ?_ ?_
                  rotate_left
                  ·intro w'
                   go_simp
                   with_reducible rfl
                  rotate_left
                  ·simp only [Act.put,List.setIfInBounds_toArray,List.set_cons_zero,List.set_cons_succ,i64_w,i32_w]
                   rfl
                  refine pure_ (i:=7) (N:=some 47) (v:=?_) (a':=?_) #[true,true,true,false,true,true,true,true,false,false,false,false,false,false,false,false,false,false,false,false] rfl rfl (any_of HT_.out (by kernel_rfl)) (fun _ _ _ h=>h) (Or.inl ⟨by rfl,?_⟩) ?_ ?_
                  rotate_left
                  ·intro w'
                   go_simp
                   with_reducible rfl
                  rotate_left
                  ·simp only [Act.put,List.setIfInBounds_toArray,List.set_cons_zero,List.set_cons_succ,i64_w,i32_w]
                   rfl
                  refine pure_ (i:=8) (N:=some 48) (v:=?_) (a':=?_) #[true,true,true,false,true,true,true,true,true,false,false,false,false,false,false,false,false,false,false,false] rfl rfl (any_of HT_.out (by kernel_rfl)) (fun _ _ _ h=>h) (Or.inl ⟨by rfl,?_⟩) ?_ ?_
                  rotate_left
                  ·intro w'
                   go_simp
                   with_reducible rfl
                  rotate_left
                  ·simp only [Act.put,List.setIfInBounds_toArray,List.set_cons_zero,List.set_cons_succ,i64_w,i32_w]
                   rfl
                  refine take_ (i:=3) (N:=some 43) (v:=?_) (a':=?_) #[true,true,true,true,true,true,true,true,true,false,false,false,false,false,false,false,false,false,false,false] rfl rfl (take_ofW HT_.out HW_.out (by kernel_rfl)) (fun _ _ _ h=>h) (Or.inl ⟨by rfl,?_⟩) hHeld ?_ ?_
                  rotate_left
                  ·intro w' s0
                   go_simp
                   with_reducible rfl
                  rotate_left
                  ·simp only [Act.put,List.setIfInBounds_toArray,List.set_cons_zero,List.set_cons_succ,i64_w,i32_w]
                   rfl
                  refine one_ (i:=9) (N:=some 49) #[true,true,true,true,true,true,true,true,true,true,false,false,false,false,false,false,false,false,false,false] rfl rfl (one_of HT_.out (by kernel_rfl)) (by decide) (fun K hK=>?_)
                  refine goes_ Tryz.func49 (by kernel_rfl) rfl #[.int .i64 a0,.slice Ao33 t321.length co33,.int .i64 x24_1,.int .i64 x37_2] (by rfl) rfl rfl (by (try simp only [List.map_toArray,List.map_cons,List.map_nil]);first | done | rfl | (simp only [List.length_drop,List.length_take];rfl)) ?_
                  with_reducible refine (spec_qrGiven.calls k2 a0 _ _ t321 x24_1 x37_2 true _ ?side1 ?side2 A26.out).mono ?_
                  (case side1=>repeat (first | exact (Kd.R_reads' HO_9.out).2.2 | (with_reducible refine Kd.C_alloc ?_ _) | (with_reducible refine Kd.C_drewN ?_ _) | (with_reducible refine Kd.C_drew ?_)))
                  (case side2=>exact (Kd.R_reads' HO_9.out).2.1)
                  rintro e w34 ⟨rfl,hb⟩
                  have HS0_:=(hb.cell (World.block_lt_of_cell? _ _ (hHeld))).trans (hHeld)
                  refine⟨_,rfl,?_⟩
                  have n0_:=Aside0.mk (Kd.R_below (by (with_reducible repeat (first | apply Kd.R_alloc | apply Kd.R_drewN | apply Kd.R_drew));exact HO_9.out) hb)
                  have n1_:=Aside0.mk (Kd.S_below (by (with_reducible repeat (first | apply Kd.S_alloc | apply Kd.S_drewN | apply Kd.S_drew));exact HO_10.out) hb)
                  have n2_:=Aside0.mk (Kd.R_below (by (with_reducible repeat (first | apply Kd.R_alloc | apply Kd.R_drewN | apply Kd.R_drew));exact HL332_0.out) hb)
                  have n3_:=Aside0.mk (Kd.C_below (by repeat (first | (with_reducible exact HR332_0.out) | (with_reducible refine Kd.C_alloc ?_ _) | (with_reducible refine Kd.C_drewN ?_ _) | (with_reducible refine Kd.C_drew ?_) | exact HR332_0.out)) hb)
                  have n4_:=Aside0.mk (pw_cell_below hb HX332_0.out)
                  have n5_:=Aside0.mk (below_step (by repeat (first | (with_reducible first | exact HB.out | apply below_alloc | apply pw_below_drewN | apply below_drew1) | exact HB.out)) hb)
                  clear HO_9
                  clear HO_10
                  clear HL332_0
                  clear HR332_0
                  clear HX332_0
                  clear HB
                  have HO_9:=n0_
                  have HO_10:=n1_
                  have HL332_0:=n2_
                  have HR332_0:=n3_
                  have HX332_0:=n4_
                  have HB:=n5_
                  clear n0_ n1_ n2_ n3_ n4_ n5_
                  (try clear hb)
                  (try clear hb2)
                  (try clear hk)
                  (try clear hi)
                  refine hK.out _ _ (HS0_) (fun hHeld=>?_)
                  clear hK K
                  refine norm_ (a':=?_) ?_ ?_
                  rotate_left
                  ·show Act.put _ (some 49) _=_
                   simp only [Act.put,List.setIfInBounds_toArray,List.set_cons_zero,List.set_cons_succ,i64_w,i32_w]
                   rfl
                  refine pure_ (i:=10) (N:=some 50) (v:=?_) (a':=?_) #[true,true,true,true,true,true,true,true,true,true,true,false,false,false,false,false,false,false,false,false] rfl rfl (any_of HT_.out (by kernel_rfl)) (fun _ _ _ h=>h) (Or.inl ⟨by rfl,?_⟩) ?_ ?_
                  rotate_left
                  ·intro w'
                   go_simp
                   with_reducible rfl
                  rotate_left
                  ·simp only [Act.put,List.setIfInBounds_toArray,List.set_cons_zero,List.set_cons_succ,i64_w,i32_w]
                   rfl
                  refine pure_ (i:=11) (N:=some 51) (v:=?_) (a':=?_) #[true,true,true,true,true,true,true,true,true,true,true,true,false,false,false,false,false,false,false,false] rfl rfl (any_of HT_.out (by kernel_rfl)) (fun _ _ _ h=>h) (Or.inl ⟨by rfl,?_⟩) ?_ ?_
                  rotate_left
                  ·intro w'
                   go_simp
                   with_reducible rfl
                  rotate_left
                  ·simp only [Act.put,List.setIfInBounds_toArray,List.set_cons_zero,List.set_cons_succ,i64_w,i32_w]
                   rfl
                  refine pure_ (i:=12) (N:=some 52) (v:=?_) (a':=?_) #[true,true,true,true,true,true,true,true,true,true,true,true,true,false,false,false,false,false,false,false] rfl rfl (any_of HT_.out (by kernel_rfl)) (fun _ _ _ h=>h) (Or.inl ⟨by rfl,?_⟩) ?_ ?_
                  rotate_left
                  ·intro w'
                   go_simp
                   with_reducible rfl
                  rotate_left
                  ·simp only [Act.put,List.setIfInBounds_toArray,List.set_cons_zero,List.set_cons_succ,i64_w,i32_w]
                   rfl
                  refine pure_ (i:=13) (N:=some 53) (v:=?_) (a':=?_) #[true,true,true,true,true,true,true,true,true,true,true,true,true,true,false,false,false,false,false,false] rfl rfl (any_of HT_.out (by kernel_rfl)) (fun _ _ _ h=>h) (Or.inl ⟨by rfl,?_⟩) ?_ ?_
                  rotate_left
                  ·intro w'
                   go_simp
                   with_reducible rfl
                  rotate_left
                  ·simp only [Act.put,List.setIfInBounds_toArray,List.set_cons_zero,List.set_cons_succ,i64_w,i32_w]
                   rfl
                  refine pure_ (i:=14) (N:=some 54) (v:=?_) (a':=?_) #[true,true,true,true,true,true,true,true,true,true,true,true,true,true,true,false,false,false,false,false] rfl rfl (any_of HT_.out (by kernel_rfl)) (fun _ _ _ h=>h) (Or.inl ⟨by rfl,?_⟩) ?_ ?_
                  rotate_left
                  ·intro w'
                   go_simp
                   with_reducible rfl
                  rotate_left
                  ·simp only [Act.put,List.setIfInBounds_toArray,List.set_cons_zero,List.set_cons_succ,i64_w,i32_w]
                   rfl
                  refine pure_ (i:=15) (N:=some 55) (v:=?_) (a':=?_) #[true,true,true,true,true,true,true,true,true,true,true,true,true,true,true,true,false,false,false,false] rfl rfl (any_of HT_.out (by kernel_rfl)) (fun _ _ _ h=>h) (Or.inl ⟨by rfl,?_⟩) ?_ ?_
                  rotate_left
                  ·intro w'
                   go_simp
                   with_reducible rfl
                  rotate_left
                  ·simp only [Act.put,List.setIfInBounds_toArray,List.set_cons_zero,List.set_cons_succ,i64_w,i32_w]
                   rfl
                  refine one_ (i:=16) (N:=some 56) #[true,true,true,true,true,true,true,true,true,true,true,true,true,true,true,true,true,false,false,false] rfl rfl (one_of HT_.out (by kernel_rfl)) (by decide) (fun K hK=>?_)
                  refine goes_ Tryz.func50 (by kernel_rfl) rfl #[.int .i64 a0,.int .i64 t320,.slice Ao33 t321.length co33,.int .i64 x24_1,.int .i64 x37_2] (by rfl) rfl rfl (by (try simp only [List.map_toArray,List.map_cons,List.map_nil]);first | done | rfl | (simp only [List.length_drop,List.length_take];rfl)) ?_
                  with_reducible refine (spec_qrPattern.calls k2 a0 t320 _ _ t321 x24_1 x37_2 t334 _ ?side1 ?side2 A28.out).mono ?_
                  (case side1=>repeat (first | exact (Kd.R_reads' HO_9.out).2.2 | (with_reducible refine Kd.C_alloc ?_ _) | (with_reducible refine Kd.C_drewN ?_ _) | (with_reducible refine Kd.C_drew ?_)))
                  (case side2=>exact (Kd.R_reads' HO_9.out).2.1)
                  rintro e w35 ⟨rfl,hb⟩
                  have HS0_:=(hb.cell (World.block_lt_of_cell? _ _ (hHeld))).trans (hHeld)
                  refine⟨_,rfl,?_⟩
                  have n0_:=Aside0.mk (Kd.R_below (by (with_reducible repeat (first | apply Kd.R_alloc | apply Kd.R_drewN | apply Kd.R_drew));exact HO_9.out) hb)
                  have n1_:=Aside0.mk (Kd.S_below (by (with_reducible repeat (first | apply Kd.S_alloc | apply Kd.S_drewN | apply Kd.S_drew));exact HO_10.out) hb)
                  have n2_:=Aside0.mk (Kd.R_below (by (with_reducible repeat (first | apply Kd.R_alloc | apply Kd.R_drewN | apply Kd.R_drew));exact HL332_0.out) hb)
                  have n3_:=Aside0.mk (Kd.C_below (by repeat (first | (with_reducible exact HR332_0.out) | (with_reducible refine Kd.C_alloc ?_ _) | (with_reducible refine Kd.C_drewN ?_ _) | (with_reducible refine Kd.C_drew ?_) | exact HR332_0.out)) hb)
                  have n4_:=Aside0.mk (pw_cell_below hb HX332_0.out)
                  have n5_:=Aside0.mk (below_step (by repeat (first | (with_reducible first | exact HB.out | apply below_alloc | apply pw_below_drewN | apply below_drew1) | exact HB.out)) hb)
                  clear HO_9
                  clear HO_10
                  clear HL332_0
                  clear HR332_0
                  clear HX332_0
                  clear HB
                  have HO_9:=n0_
                  have HO_10:=n1_
                  have HL332_0:=n2_
                  have HR332_0:=n3_
                  have HX332_0:=n4_
                  have HB:=n5_
                  clear n0_ n1_ n2_ n3_ n4_ n5_
                  (try clear hb)
                  (try clear hb2)
                  (try clear hk)
                  (try clear hi)
                  have p31:0<=(x37_2:Int):=of_decide_eq_true (by first | (with_reducible assumption) | assumption)
                  have q31:(x37_2:Int)<(((rd_L1 x10_2 x24_1).length:Int):Int):=of_decide_eq_true (by first | (with_reducible assumption) | assumption)
                  obtain⟨go31,co31,eo31,gb31,gl31,cl31,HG31⟩:=Kd.R_form HL332_0.out (by omega)
                  (first | cases eo31 | (injection eo31 with ea_ en_ ec_;(first | subst ea_ | (injection ea_ with ea_;subst ea_));subst ec_;clear en_))
                  have GB31:=Aside0.mk gb31
                  have GG31:=Aside0.mk HG31
                  clear gb31 gl31 HG31
                  obtain⟨hx31_0,hf31_0⟩:=Kd.R_celln false HL332_0.out (x37_2:Int) p31 q31
                  replace p31:=eq_true p31
                  replace q31:=eq_true q31
                  have hq36:(x24_1:Int)<(x10_2.length:Int):=(by have h_:(x24_1:Int)<((x10_2.length:Int):Int):=of_decide_eq_true (by first | (with_reducible assumption) | assumption);first | exact h_ | (have e_:=(Kd.S_reads' HO_10.out).1;omega) | simpa only [List.length_set,List.length_set] using h_)
                  obtain⟨oki36,ce36,hcl36,hM36,hcc36,hok36,hbk36⟩:=Kd.S_borrow HO_10.out [] (x24_1:Int) (of_decide_eq_true (by first | (with_reducible assumption) | assumption)) hq36
                  obtain⟨ve36_0,rfl,ge36_0⟩:=hM36
                  have hv36:=hcc36 0 _ rfl
                  rw [Nat.add_zero,show ((Kd.slice 4 Kd.bool)).sz=1 from rfl,Nat.mul_one] at hv36
                  replace hv36:=Option.some.inj (hv36.symm.trans HX332_0.out)
                  subst hv36
                  clear hcc36 hcl36
                  replace ge36_0:=(show Kd.R Kd.bool 4 _ _ _ _ (rd_L1 x10_2 x24_1) from ge36_0)
                  have HP36:=Kd.R_putg ge36_0 (x37_2:Int) t334
                  rw [<- Ny335.out] at HP36
                  have HS36:=hbk36 HP36.2 (fun k_ e_=>by injection e_ with e_;subst e_;exact ge36_0.1 _ rfl) (x':=y335) (Kd.M_row HP36.1)
                  rw [<- Ny337.out] at HS36
                  have HQ36:=Aside0.mk HS36
                  clear HP36 HS36 hbk36 hok36
                  refine hK.out _ _ (HS0_) (fun hHeld=>?_)
                  clear hK K
                  refine norm_ (a':=?_) ?_ ?_
                  rotate_left
                  ·show Act.put _ (some 56) _=_
                   simp only [Act.put,List.setIfInBounds_toArray,List.set_cons_zero,List.set_cons_succ,i64_w,i32_w]
                   rfl
                  refine pure_ (i:=17) (N:=some 57) (v:=?_) (a':=?_) #[true,true,true,true,true,true,true,true,true,true,true,true,true,true,true,true,true,true,false,false] rfl rfl (any_of HT_.out (by kernel_rfl)) (fun _ _ _ h=>h) (Or.inl ⟨by rfl,?_⟩) ?_ ?_
                  rotate_left
                  ·intro w'
                   go_simp
                   with_reducible rfl
                  rotate_left
                  ·simp only [Act.put,List.setIfInBounds_toArray,List.set_cons_zero,List.set_cons_succ,i64_w,i32_w]
                   rfl
                  refine pure_ (i:=18) (N:=some 58) (v:=?_) (a':=?_) #[true,true,true,true,true,true,true,true,true,true,true,true,true,true,true,true,true,true,true,false] rfl rfl (any_of HT_.out (by kernel_rfl)) (fun _ _ _ h=>h) (Or.inl ⟨by rfl,?_⟩) ?_ ?_
                  rotate_left
                  ·intro w'
                   go_simp
                   with_reducible rfl
                  rotate_left
                  ·simp only [Act.put,List.setIfInBounds_toArray,List.set_cons_zero,List.set_cons_succ,i64_w,i32_w]
                   rfl
                  refine last_ (i:=19) (N:=none) #[true,true,true,true,true,true,true,true,true,true,true,true,true,true,true,true,true,true,true,true] rfl rfl (one_of HT_.out (by kernel_rfl)) (by decide) (fun K hK=>?_)
                  refine skip_ (w1:=?_) (by rfl) rfl ?_ ?_
                  rotate_left
                  ·go_simp
                   rfl
                  refine hK.out _ _ ?_
                  clear hK K
                  refine done_ (done_of HT_.out (by kernel_rfl)) ?_
                  try go_wp2
                  (try simp only [<- hl10_2])
                  go_roundg k2
                  case measure=>have:=HK1.out;have:=HK2.out;omega
                  case rel=>exact⟨(y337),(wrap64 (x37_2+1)),(by first | rfl | (simp;done) | (simp [*];done)),H',⟨by have:=HK1.out;have:=HK2.out;omega⟩,⟨by (try simp only [hl10_1]);(try simp only [hl10_2]);(with_reducible repeat (first | apply Kd.R_alloc | apply Kd.R_drewN | apply Kd.R_drew));exact Kd.R_mono (Kd.R_far (p:=⟨go31,(x37_2:Int).toNat,none⟩) (Kd.R_types HO_9.out GG31.out (by decide)) (fun _ hk=>hk.2) (.bool t334)) (fun _ hk=>trivial)⟩,⟨by (try simp only [hl10_1]);(try simp only [hl10_2]);(with_reducible repeat (first | apply Kd.S_alloc | apply Kd.S_drewN | apply Kd.S_drew));exact HQ36.out⟩,⟨by repeat (first | (with_reducible first | exact HB.out | apply below_alloc | apply pw_below_drewN | apply below_drew1 | refine below_set ?_ GB31.out) | exact HB.out)⟩⟩
                 ·rw [if_neg c30] at H
                  exact absurd H (by simp)
                ·rw [if_neg c29] at H
                 exact absurd H (by simp)
               ·replace c27:=Bool.eq_false_iff.mpr c27
                subst c27
                have H1:(if 0<=x37_2 then (if x37_2<((rd_L1 x10_2 x24_1).length:Int) then (spec_QRPatterns.l1 k2 a0 t319 t320 t321 (x10_2.set (x24_1:Int).toNat ((rd_L1 x10_2 x24_1).set (x37_2:Int).toNat false)) x24_1 (y324.length:Int) x24_1 ((rd_L1 y330 x24_1).length:Int) (wrap64 (x37_2+1))) else (none)) else (none))=some r:=by rw [if_neg (show ¬ (false=true) by decide)] at H;exact H
                clear H
                have H:=H1
                clear H1
                by_cases c38:0<=x37_2
                ·rw [if_pos c38] at H
                 have c38b0:decide (0<=x37_2)=true:=decide_eq_true c38
                 clear c38
                 by_cases c39:x37_2<((rd_L1 x10_2 x24_1).length:Int)
                 ·rw [if_pos c39] at H
                  have c39b0:decide (x37_2<((rd_L1 x10_2 x24_1).length:Int))=true:=decide_eq_true c39
                  clear c39
                  obtain⟨y338,hy338⟩:∃ y_:List Bool,y_=((rd_L1 x10_2 x24_1).set (x37_2:Int).toNat false):=⟨_,rfl⟩
                  replace H:(spec_QRPatterns.l1 k2 a0 t319 t320 t321 (x10_2.set (x24_1:Int).toNat y338) x24_1 (y324.length:Int) x24_1 ((rd_L1 y330 x24_1).length:Int) (wrap64 (x37_2+1)))=some r:=by first | (rw [hy338];with_reducible exact H) | (have H2_:=(Option.bind_some _ _).symm.trans H;rw [hy338];with_reducible exact H2_) | (have H2_:=(Option.bind_some _ _).symm.trans H;with_reducible exact H2_) | with_reducible exact H | (rw [hy338];exact H) | exact H
                  have Ny338:=Aside0.mk hy338
                  clear hy338
                  obtain⟨y340,hy340⟩:∃ y_:List (List Bool),y_=(x10_2.set (x24_1:Int).toNat y338):=⟨_,rfl⟩
                  replace H:(spec_QRPatterns.l1 k2 a0 t319 t320 t321 y340 x24_1 (y324.length:Int) x24_1 ((rd_L1 y330 x24_1).length:Int) (wrap64 (x37_2+1)))=some r:=by first | (rw [hy340];with_reducible exact H) | (have H2_:=(Option.bind_some _ _).symm.trans H;rw [hy340];with_reducible exact H2_) | (have H2_:=(Option.bind_some _ _).symm.trans H;with_reducible exact H2_) | with_reducible exact H | (rw [hy340];exact H) | exact H
                  have Ny340:=Aside0.mk hy340
                  clear hy340
                  have H':=Aside0.mk H
                  clear H
                  try go_wp2
                  have n0_:=Aside0.mk (Kd.R_drew HO_9.out)
                  have n1_:=Aside0.mk (Kd.S_drew HO_10.out)
                  have n2_:=Aside0.mk (below_drew1 HB.out)
                  clear HO_9
                  clear HO_10
                  clear HB
                  have HO_9:=n0_
                  have HO_10:=n1_
                  have HB:=n2_
                  clear n0_ n1_ n2_
                  have p332:0<=(x24_1:Int):=of_decide_eq_true (by first | (with_reducible assumption) | assumption)
                  have q332:x24_1<(x10_2.length:Int):=of_decide_eq_true (by first | (with_reducible assumption) | assumption)
                  obtain⟨ad332,A332_0,c332_0,e332,hx332_0,hl332_0,hi332_0⟩:=at_L1 (Kd.S_reads' HO_10.out).2.2 x24_1 p332 q332
                  obtain rfl:(⟨go18,0,none⟩:Addr)=ad332:=(by injection e332)
                  obtain⟨ce332,hce332,hMe332,hcc332⟩:=Kd.S_get HO_10.out [] x24_1 p332 (by first | exact q332 | exact of_decide_eq_true (by first | (with_reducible assumption) | assumption) | (have e_:=(Kd.S_reads' HO_10.out).1;omega))
                  obtain⟨ve332_0,rfl,ge332_0⟩:=hMe332
                  have hv332_0:=hcc332 0 _ rfl
                  rw [Nat.add_zero,show ((Kd.slice 4 Kd.bool)).sz=1 from rfl,Nat.mul_one] at hv332_0
                  replace hv332_0:=Option.some.inj (hv332_0.symm.trans hx332_0)
                  rw [hv332_0] at ge332_0
                  have HL332_0:=Aside0.mk (show Kd.R Kd.bool 4 _ _ _ _ (rd_L1 x10_2 x24_1) from ge332_0)
                  clear hv332_0 ge332_0
                  have HX332_0:=Aside0.mk hx332_0
                  clear hcc332 hce332
                  (first | simp only [add_plain] at hx332_0 | simp only [add_at] at hx332_0 | simp only [Addr.add,Nat.zero_add] at hx332_0 | skip)
                  have HR332_0:=Aside0.mk hi332_0
                  have HC332_0:=Aside0.mk hl332_0
                  clear hi332_0 hl332_0
                  replace p332:=eq_true p332
                  replace q332:=eq_true q332
                  obtain⟨Ao42,co42,eo42⟩:=Kd.R_slice HO_9.out
                  (first | subst eo42 | (injection eo42 with f1_ f2_ f3_;have f4_:=f1_.symm;have f5_:=f3_.symm;clear f1_ f2_ f3_;subst f4_;subst f5_))
                  refine start_ (n:=20) (S:=fun w'=>w'.cell? ⟨go18,(x24_1).toNat,none⟩=some (.slice A332_0 (rd_L1 x10_2 x24_1).length c332_0)) (ds:=[19]) #[false,false,false,false,false,false,false,false,false,false,false,false,false,false,false,false,false,false,false,false] (by kernel_rfl) rfl rfl (hx332_0) (fun hHeld=>?_);refine with_tabW spec_QRPatterns.tab12 spec_QRPatterns.bits12 (fun HT_ HW_=>?_)
                  generalize wr.drew=w41 at HO_9 HO_10 HB HL332_0 HR332_0 HX332_0 hx332_0 hHeld ⊢
                  refine pure_ (i:=0) (N:=some 40) (v:=?_) (a':=?_) #[true,false,false,false,false,false,false,false,false,false,false,false,false,false,false,false,false,false,false,false] rfl rfl (any_of HT_.out (by kernel_rfl)) (fun _ _ _ h=>h) (Or.inl ⟨by rfl,?_⟩) ?_ ?_
                  rotate_left
                  ·intro w'
                   go_simp
                   with_reducible rfl
                  rotate_left
                  ·simp only [Act.put,List.setIfInBounds_toArray,List.set_cons_zero,List.set_cons_succ,i64_w,i32_w]
                   rfl
                  refine pure_ (i:=1) (N:=some 41) (v:=?_) (a':=?_) #[true,true,false,false,false,false,false,false,false,false,false,false,false,false,false,false,false,false,false,false] rfl rfl (any_of HT_.out (by kernel_rfl)) (fun _ _ _ h=>h) (Or.inl ⟨by rfl,?_⟩) ?_ ?_
                  rotate_left
                  ·intro w'
                   go_simp
                   with_reducible rfl
                  rotate_left
                  ·simp only [Act.put,List.setIfInBounds_toArray,List.set_cons_zero,List.set_cons_succ,i64_w,i32_w]
                   rfl
                  refine pure_ (i:=2) (N:=some 42) (v:=?_) (a':=?_) #[true,true,true,false,false,false,false,false,false,false,false,false,false,false,false,false,false,false,false,false] rfl rfl (any_of HT_.out (by kernel_rfl)) (fun _ _ _ h=>h) (Or.inl ⟨by rfl,?_⟩) ?_ ?_
                  rotate_left
                  ·intro w'
                   go_simp
                   with_reducible rfl
                  rotate_left
                  ·simp only [Act.put,List.setIfInBounds_toArray,List.set_cons_zero,List.set_cons_succ,i64_w,i32_w]
                   rfl
                  refine pure_ (i:=4) (N:=some 44) (v:=?_) (a':=?_) #[true,true,true,false,true,false,false,false,false,false,false,false,false,false,false,false,false,false,false,false] rfl rfl (any_of HT_.out (by kernel_rfl)) (fun _ _ _ h=>h) (Or.inl ⟨by rfl,?_⟩) ?_ ?_
                  rotate_left
                  ·intro w'
                   go_simp
                   with_reducible rfl
                  rotate_left
                  ·simp only [Act.put,List.setIfInBounds_toArray,List.set_cons_zero,List.set_cons_succ,i64_w,i32_w]
                   rfl
                  refine pure_ (i:=5) (N:=some 45) (v:=?_) (a':=?_) #[true,true,true,false,true,true,false,false,false,false,false,false,false,false,false,false,false,false,false,false] rfl rfl (any_of HT_.out (by kernel_rfl)) (fun _ _ _ h=>h) (Or.inl ⟨by rfl,?_⟩) ?_ ?_
                  rotate_left
                  ·intro w'
                   go_simp
                   with_reducible rfl
                  rotate_left
                  ·simp only [Act.put,List.setIfInBounds_toArray,List.set_cons_zero,List.set_cons_succ,i64_w,i32_w]
                   rfl
                  refine pure_ (i:=6) (N:=some 46) (v:=?_) (a':=?_) #[true,true,true,false,true,true,true,false,false,false,false,false,false,false,false,false,false,false,false,false] rfl rfl (any_of HT_.out (by kernel_rfl)) (fun _ _ _ h=>h) (Or.inl ⟨by rfl,?_⟩) ?_ ?_
                  rotate_left
                  ·intro w'
                   go_simp
                   with_reducible rfl
                  rotate_left
                  ·simp only [Act.put,List.setIfInBounds_toArray,List.set_cons_zero,List.set_cons_succ,i64_w,i32_w]
                   rfl
                  refine pure_ (i:=7) (N:=some 47) (v:=?_) (a':=?_) #[true,true,true,false,true,true,true,true,false,false,false,false,false,false,false,false,false,false,false,false] rfl rfl (any_of HT_.out (by kernel_rfl)) (fun _ _ _ h=>h) (Or.inl ⟨by rfl,?_⟩) ?_ ?_
                  rotate_left
                  ·intro w'
                   go_simp
                   with_reducible rfl
                  rotate_left
                  ·simp only [Act.put,List.setIfInBounds_toArray,List.set_cons_zero,List.set_cons_succ,i64_w,i32_w]
                   rfl
                  refine pure_ (i:=8) (N:=some 48) (v:=?_) (a':=?_) #[true,true,true,false,true,true,true,true,true,false,false,false,false,false,false,false,false,false,false,false] rfl rfl (any_of HT_.out (by kernel_rfl)) (fun _ _ _ h=>h) (Or.inl ⟨by rfl,?_⟩) ?_ ?_
                  rotate_left
                  ·intro w'
                   go_simp
                   with_reducible rfl
                  rotate_left
                  ·simp only [Act.put,List.setIfInBounds_toArray,List.set_cons_zero,List.set_cons_succ,i64_w,i32_w]
                   rfl
                  refine take_ (i:=3) (N:=some 43) (v:=?_) (a':=?_) #[true,true,true,true,true,true,true,true,true,false,false,false,false,false,false,false,false,false,false,false] rfl rfl (take_ofW HT_.out HW_.out (by kernel_rfl)) (fun _ _ _ h=>h) (Or.inl ⟨by rfl,?_⟩) hHeld ?_ ?_
                  rotate_left
                  ·intro w' s0
                   go_simp
                   with_reducible rfl
                  rotate_left
                  ·simp only [Act.put,List.setIfInBounds_toArray,List.set_cons_zero,List.set_cons_succ,i64_w,i32_w]
                   rfl
                  refine one_ (i:=9) (N:=some 49) #[true,true,true,true,true,true,true,true,true,true,false,false,false,false,false,false,false,false,false,false] rfl rfl (one_of HT_.out (by kernel_rfl)) (by decide) (fun K hK=>?_)
                  refine goes_ Tryz.func49 (by kernel_rfl) rfl #[.int .i64 a0,.slice Ao42 t321.length co42,.int .i64 x24_1,.int .i64 x37_2] (by rfl) rfl rfl (by (try simp only [List.map_toArray,List.map_cons,List.map_nil]);first | done | rfl | (simp only [List.length_drop,List.length_take];rfl)) ?_
                  with_reducible refine (spec_qrGiven.calls k2 a0 _ _ t321 x24_1 x37_2 false _ ?side1 ?side2 A26.out).mono ?_
                  (case side1=>repeat (first | exact (Kd.R_reads' HO_9.out).2.2 | (with_reducible refine Kd.C_alloc ?_ _) | (with_reducible refine Kd.C_drewN ?_ _) | (with_reducible refine Kd.C_drew ?_)))
                  (case side2=>exact (Kd.R_reads' HO_9.out).2.1)
                  rintro e w43 ⟨rfl,hb⟩
                  have HS0_:=(hb.cell (World.block_lt_of_cell? _ _ (hHeld))).trans (hHeld)
                  refine⟨_,rfl,?_⟩
                  have n0_:=Aside0.mk (Kd.R_below (by (with_reducible repeat (first | apply Kd.R_alloc | apply Kd.R_drewN | apply Kd.R_drew));exact HO_9.out) hb)
                  have n1_:=Aside0.mk (Kd.S_below (by (with_reducible repeat (first | apply Kd.S_alloc | apply Kd.S_drewN | apply Kd.S_drew));exact HO_10.out) hb)
                  have n2_:=Aside0.mk (Kd.R_below (by (with_reducible repeat (first | apply Kd.R_alloc | apply Kd.R_drewN | apply Kd.R_drew));exact HL332_0.out) hb)
                  have n3_:=Aside0.mk (Kd.C_below (by repeat (first | (with_reducible exact HR332_0.out) | (with_reducible refine Kd.C_alloc ?_ _) | (with_reducible refine Kd.C_drewN ?_ _) | (with_reducible refine Kd.C_drew ?_) | exact HR332_0.out)) hb)
                  have n4_:=Aside0.mk (pw_cell_below hb HX332_0.out)
                  have n5_:=Aside0.mk (below_step (by repeat (first | (with_reducible first | exact HB.out | apply below_alloc | apply pw_below_drewN | apply below_drew1) | exact HB.out)) hb)
                  clear HO_9
                  clear HO_10
                  clear HL332_0
                  clear HR332_0
                  clear HX332_0
                  clear HB
                  have HO_9:=n0_
                  have HO_10:=n1_
                  have HL332_0:=n2_
                  have HR332_0:=n3_
                  have HX332_0:=n4_
                  have HB:=n5_
                  clear n0_ n1_ n2_ n3_ n4_ n5_
                  (try clear hb)
                  (try clear hb2)
                  (try clear hk)
                  (try clear hi)
                  have p40:0<=(x37_2:Int):=of_decide_eq_true (by first | (with_reducible assumption) | assumption)
                  have q40:(x37_2:Int)<(((rd_L1 x10_2 x24_1).length:Int):Int):=of_decide_eq_true (by first | (with_reducible assumption) | assumption)
                  obtain⟨go40,co40,eo40,gb40,gl40,cl40,HG40⟩:=Kd.R_form HL332_0.out (by omega)
                  (first | cases eo40 | (injection eo40 with ea_ en_ ec_;(first | subst ea_ | (injection ea_ with ea_;subst ea_));subst ec_;clear en_))
                  have GB40:=Aside0.mk gb40
                  have GG40:=Aside0.mk HG40
                  clear gb40 gl40 HG40
                  obtain⟨hx40_0,hf40_0⟩:=Kd.R_celln false HL332_0.out (x37_2:Int) p40 q40
                  replace p40:=eq_true p40
                  replace q40:=eq_true q40
                  have hq44:(x24_1:Int)<(x10_2.length:Int):=(by have h_:(x24_1:Int)<((x10_2.length:Int):Int):=of_decide_eq_true (by first | (with_reducible assumption) | assumption);first | exact h_ | (have e_:=(Kd.S_reads' HO_10.out).1;omega) | simpa only [List.length_set,List.length_set] using h_)
                  obtain⟨oki44,ce44,hcl44,hM44,hcc44,hok44,hbk44⟩:=Kd.S_borrow HO_10.out [] (x24_1:Int) (of_decide_eq_true (by first | (with_reducible assumption) | assumption)) hq44
                  obtain⟨ve44_0,rfl,ge44_0⟩:=hM44
                  have hv44:=hcc44 0 _ rfl
                  rw [Nat.add_zero,show ((Kd.slice 4 Kd.bool)).sz=1 from rfl,Nat.mul_one] at hv44
                  replace hv44:=Option.some.inj (hv44.symm.trans HX332_0.out)
                  subst hv44
                  clear hcc44 hcl44
                  replace ge44_0:=(show Kd.R Kd.bool 4 _ _ _ _ (rd_L1 x10_2 x24_1) from ge44_0)
                  have HP44:=Kd.R_putg ge44_0 (x37_2:Int) false
                  rw [<- Ny338.out] at HP44
                  have HS44:=hbk44 HP44.2 (fun k_ e_=>by injection e_ with e_;subst e_;exact ge44_0.1 _ rfl) (x':=y338) (Kd.M_row HP44.1)
                  rw [<- Ny340.out] at HS44
                  have HQ44:=Aside0.mk HS44
                  clear HP44 HS44 hbk44 hok44
                  refine hK.out _ _ (HS0_) (fun hHeld=>?_)
                  clear hK K
                  refine norm_ (a':=?_) ?_ ?_
                  rotate_left
                  ·show Act.put _ (some 49) _=_
                   simp only [Act.put,List.setIfInBounds_toArray,List.set_cons_zero,List.set_cons_succ,i64_w,i32_w]
                   rfl
                  refine pure_ (i:=10) (N:=some 50) (v:=?_) (a':=?_) #[true,true,true,true,true,true,true,true,true,true,true,false,false,false,false,false,false,false,false,false] rfl rfl (any_of HT_.out (by kernel_rfl)) (fun _ _ _ h=>h) (Or.inl ⟨by rfl,?_⟩) ?_ ?_
                  rotate_left
                  ·intro w'
                   go_simp
                   with_reducible rfl
                  rotate_left
                  ·simp only [Act.put,List.setIfInBounds_toArray,List.set_cons_zero,List.set_cons_succ,i64_w,i32_w]
                   rfl
                  refine pure_ (i:=11) (N:=some 51) (v:=undef) (a':=?_) #[true,true,true,true,true,true,true,true,true,true,true,true,false,false,false,false,false,false,false,false] rfl rfl (any_of HT_.out (by kernel_rfl)) (fun _ _ _ h=>h) (Or.inr ⟨by rfl,rfl⟩) ?_ ?_
                  rotate_left
                  ·simp only [Act.put,List.setIfInBounds_toArray,List.set_cons_zero,List.set_cons_succ,i64_w,i32_w]
                   rfl
                  refine pure_ (i:=12) (N:=some 52) (v:=undef) (a':=?_) #[true,true,true,true,true,true,true,true,true,true,true,true,true,false,false,false,false,false,false,false] rfl rfl (any_of HT_.out (by kernel_rfl)) (fun _ _ _ h=>h) (Or.inr ⟨by rfl,rfl⟩) ?_ ?_
                  rotate_left
                  ·simp only [Act.put,List.setIfInBounds_toArray,List.set_cons_zero,List.set_cons_succ,i64_w,i32_w]
                   rfl
                  refine pure_ (i:=13) (N:=some 53) (v:=undef) (a':=?_) #[true,true,true,true,true,true,true,true,true,true,true,true,true,true,false,false,false,false,false,false] rfl rfl (any_of HT_.out (by kernel_rfl)) (fun _ _ _ h=>h) (Or.inr ⟨by rfl,rfl⟩) ?_ ?_
                  rotate_left
                  ·simp only [Act.put,List.setIfInBounds_toArray,List.set_cons_zero,List.set_cons_succ,i64_w,i32_w]
                   rfl
                  refine pure_ (i:=14) (N:=some 54) (v:=undef) (a':=?_) #[true,true,true,true,true,true,true,true,true,true,true,true,true,true,true,false,false,false,false,false] rfl rfl (any_of HT_.out (by kernel_rfl)) (fun _ _ _ h=>h) (Or.inr ⟨by rfl,rfl⟩) ?_ ?_
                  rotate_left
                  ·simp only [Act.put,List.setIfInBounds_toArray,List.set_cons_zero,List.set_cons_succ,i64_w,i32_w]
                   rfl
                  refine pure_ (i:=15) (N:=some 55) (v:=undef) (a':=?_) #[true,true,true,true,true,true,true,true,true,true,true,true,true,true,true,true,false,false,false,false] rfl rfl (any_of HT_.out (by kernel_rfl)) (fun _ _ _ h=>h) (Or.inr ⟨by rfl,rfl⟩) ?_ ?_
                  rotate_left
                  ·simp only [Act.put,List.setIfInBounds_toArray,List.set_cons_zero,List.set_cons_succ,i64_w,i32_w]
                   rfl
                  refine pure_ (i:=16) (N:=some 56) (v:=undef) (a':=?_) #[true,true,true,true,true,true,true,true,true,true,true,true,true,true,true,true,true,false,false,false] rfl rfl (any_of HT_.out (by kernel_rfl)) (fun _ _ _ h=>h) (Or.inr ⟨by rfl,rfl⟩) ?_ ?_
                  rotate_left
                  ·simp only [Act.put,List.setIfInBounds_toArray,List.set_cons_zero,List.set_cons_succ,i64_w,i32_w]
                   rfl
                  refine pure_ (i:=17) (N:=some 57) (v:=?_) (a':=?_) #[true,true,true,true,true,true,true,true,true,true,true,true,true,true,true,true,true,true,false,false] rfl rfl (any_of HT_.out (by kernel_rfl)) (fun _ _ _ h=>h) (Or.inl ⟨by rfl,?_⟩) ?_ ?_
                  rotate_left
                  ·intro w'
                   go_simp
                   with_reducible rfl
                  rotate_left
                  ·simp only [Act.put,List.setIfInBounds_toArray,List.set_cons_zero,List.set_cons_succ,i64_w,i32_w]
                   rfl
                  refine pure_ (i:=18) (N:=some 58) (v:=?_) (a':=?_) #[true,true,true,true,true,true,true,true,true,true,true,true,true,true,true,true,true,true,true,false] rfl rfl (any_of HT_.out (by kernel_rfl)) (fun _ _ _ h=>h) (Or.inl ⟨by rfl,?_⟩) ?_ ?_
                  rotate_left
                  ·intro w'
                   go_simp
                   with_reducible rfl
                  rotate_left
                  ·simp only [Act.put,List.setIfInBounds_toArray,List.set_cons_zero,List.set_cons_succ,i64_w,i32_w]
                   rfl
                  refine last_ (i:=19) (N:=none) #[true,true,true,true,true,true,true,true,true,true,true,true,true,true,true,true,true,true,true,true] rfl rfl (one_of HT_.out (by kernel_rfl)) (by decide) (fun K hK=>?_)
                  refine skip_ (w1:=?_) (by rfl) rfl ?_ ?_
                  rotate_left
                  ·go_simp
                   rfl
                  refine hK.out _ _ ?_
                  clear hK K
                  refine done_ (done_of HT_.out (by kernel_rfl)) ?_
                  try go_wp2
                  (try simp only [<- hl10_2])
                  go_roundg k2
                  case measure=>have:=HK1.out;have:=HK2.out;omega
                  case rel=>exact⟨(y340),(wrap64 (x37_2+1)),(by first | rfl | (simp;done) | (simp [*];done)),H',⟨by have:=HK1.out;have:=HK2.out;omega⟩,⟨by (try simp only [hl10_1]);(try simp only [hl10_2]);(with_reducible repeat (first | apply Kd.R_alloc | apply Kd.R_drewN | apply Kd.R_drew));exact Kd.R_mono (Kd.R_far (p:=⟨go40,(x37_2:Int).toNat,none⟩) (Kd.R_types HO_9.out GG40.out (by decide)) (fun _ hk=>hk.2) (.bool false)) (fun _ hk=>trivial)⟩,⟨by (try simp only [hl10_1]);(try simp only [hl10_2]);(with_reducible repeat (first | apply Kd.S_alloc | apply Kd.S_drewN | apply Kd.S_drew));exact HQ44.out⟩,⟨by repeat (first | (with_reducible first | exact HB.out | apply below_alloc | apply pw_below_drewN | apply below_drew1 | refine below_set ?_ GB40.out) | exact HB.out)⟩⟩
                 ·rw [if_neg c39] at H
                  exact absurd H (by simp)
                ·rw [if_neg c38] at H
                 exact absurd H (by simp)
              ·rw [if_neg c25] at H
               exact absurd H (by simp)
             ·rw [if_neg c24] at H
              exact absurd H (by simp)
            ·rw [if_neg c23] at H
             have c23b0:decide (x37_2<((rd_L1 y330 x24_1).length:Int))=false:=decide_eq_false c23
             clear c23
             have H':=Aside0.mk H
             clear H
             go_wp2
             (try simp only [<- hl10_1,<- hl10_2])
             go_roundg k2
             case measure=>have:=HK1.out;have:=HK2.out;omega
             case rel=>exact⟨(x10_2),(wrap64 (x24_1+1)),(by first | rfl | (simp;done) | (simp [*];done)),H',⟨by have:=HK1.out;have:=HK2.out;omega⟩,⟨by (try simp only [hl10_1]);(try simp only [hl10_2]);(with_reducible repeat (first | apply Kd.R_alloc | apply Kd.R_drewN | apply Kd.R_drew));exact HO_9.out⟩,⟨by (try simp only [hl10_1]);(try simp only [hl10_2]);(with_reducible repeat (first | apply Kd.S_alloc | apply Kd.S_drewN | apply Kd.S_drew));exact HO_10.out⟩,⟨by repeat (first | (with_reducible first | exact HB.out | apply below_alloc | apply pw_below_drewN | apply below_drew1) | exact HB.out)⟩⟩
         ·rw [if_neg c17] at H
          exact absurd H (by simp)
        ·rw [if_neg c16] at H
         exact absurd H (by simp)
       ·rw [if_neg c15] at H
        exact absurd H (by simp)
      ·rw [if_neg c14] at H
       exact absurd H (by simp)
     ·rw [if_neg c13] at H
      have c13b0:decide (x24_1<(y324.length:Int))=false:=decide_eq_false c13
      have c13b9:decide (x24_1<(x10_1.length:Int))=false:=by first | assumption | (have e_:=hl10_1;first | (rw [e_];exact c13b0) | (rw [<- e_];exact c13b0) | (have c_:=of_decide_eq_false c13b0;exact decide_eq_false (by omega)))
      clear c13
      obtain rfl:=Option.some.inj H
      go_wp2
      go_ret
      exact⟨_,by first | rfl | (simp [errW_none,errW_some]<;>rfl) | (simp [*,errW_none,errW_some]<;>rfl),by (with_reducible repeat (first | apply Kd.S_alloc | apply Kd.S_drewN | apply Kd.S_drew));exact HO_10.out,by repeat (first | (with_reducible first | exact HB.out | apply below_alloc | apply pw_below_drewN | apply below_drew1) | exact HB.out)⟩
  ·rw [if_neg c8] at H
   exact absurd H (by simp)
 ·rw [if_neg c7] at H
  exact absurd H (by simp)
end Go.Proofs.YtgccjgpdjkhpdaaGreat.F
