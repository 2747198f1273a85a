import Derived.Test.YtgccjgpdjkhpdaaGreatVCrop2
/-! Own texts of this claim, part 16. -/
namespace Go.Proofs.YtgccjgpdjkhpdaaGreat.F
open Go.RowKit Go.Proofs.YtgccjgpdjkhpdaaGreatW.PrintWords Go.Proofs.YtgccjgpdjkhpdaaGreatW.PrintLast Go.Proofs.YtgccjgpdjkhpdaaGreatW.PrintMore
attribute [local go_sem] max2_int min2_int max_two min_two max_three min_three max_four min_four
set_option linter.unusedVariables false
set_option linter.unusedSimpArgs false
def laws_zzFits9.f (a0_0:Int)(l0_1:List Int):Option (Bool):=if (l0_1.length:Int)>2147483647 then (some false) else (some true)
set_option maxHeartbeats 8000000 in
set_option maxRecDepth 100000 in
theorem laws_zzFits9.calls (a0_0:Int)(A0_1:Option Addr)(c0_1:Nat)(l0_1:List Int)(r:Bool)(w:World)(hr0_1:Kd.C (Kd.int .u8) w A0_1 l0_1.length l0_1)(hc0_1:l0_1.length<=c0_1)(h:laws_zzFits9.f a0_0 l0_1=some r) :
  Calls Tryz.prog 51 #[.agg #[.int .i64 a0_0,.slice A0_1 l0_1.length c0_1]] w fun e w'=>e=.returned (.bool r)/\Below w.heap.size w w':=by
 have hu98:=Tryz.underlying98
 have HR0_1:=Aside0.mk hr0_1
 have HC0_1:=Aside0.mk hc0_1
 clear hr0_1 hc0_1
 have HB:=Aside0.mk (Below.refl w.heap.size w)
 have H:(if (l0_1.length:Int)>2147483647 then (some false) else (some true))=some r:=h
 clear h
 by_cases c2:(l0_1.length:Int)>2147483647
 ·rw [if_pos c2] at H
  have c2b0:decide (2147483647<(l0_1.length:Int))=true:=decide_eq_true c2
  have c2b1:decide (2147483647<l0_1.length)=true:=decide_eq_true (by omega)
  clear c2
  obtain rfl:=Option.some.inj H
  go_enter Tryz.func51,Tryz.ntmps51
  go_wp2_with (first | ((with_reducible refine gate_dst (N:=1) rfl ?_);refine box_event ?hg (N:=1) ?hd (cs:=#[.int .i64 a0_0,.slice A0_1 l0_1.length c0_1]) (t:=98) ?hr ?_;(case hd=>rfl);(case hg=>rfl);(case hr=>first | (go_simp;done) | (go_simp;rfl));intro gb341 hg w3 hbox hb;have n0_:=Aside0.mk (below_step (by repeat (first | (with_reducible first | exact HB.out | apply below_alloc | apply pw_below_drewN | apply below_drew1) | exact HB.out)) hb);have n1_:=Aside0.mk (hbox);have n2_:=Aside0.mk ((by rw [hg];exact (below_size (by repeat (first | (with_reducible first | exact HB.out | apply below_alloc | apply pw_below_drewN | apply below_drew1) | exact HB.out))):w.heap.size<=gb341));have n3_:=Aside0.mk ((by rw [hg];exact (below_size (by repeat (first | (with_reducible first | exact HB.out | apply below_alloc | apply pw_below_drewN | apply below_drew1) | exact HB.out))):w.heap.size<=gb341));clear HB;have HB:=n0_;have BK341:=n1_;have GW341:=n2_;have GE341:=n3_;clear n0_ n1_ n2_ n3_;clear hb hbox hg;have hcz4_0:w3.cell? ⟨gb341,0,none⟩=some (.int .i64 a0_0):=(blk_cell BK341.out 0).trans rfl;have hcz4_1:w3.cell? ⟨gb341,1,none⟩=some (.slice A0_1 l0_1.length c0_1):=(blk_cell BK341.out 1).trans rfl;have hfz4_0:=blk_frozen BK341.out 0;have hfz4_1:=blk_frozen BK341.out 1))
  go_ret
  exact⟨by first | rfl | (simp [errW_none,errW_some]<;>rfl) | (simp [*,errW_none,errW_some]<;>rfl),by repeat (first | (with_reducible first | exact HB.out | apply below_alloc | apply pw_below_drewN | apply below_drew1 | refine below_set ?_ GE341.out) | exact HB.out)⟩
 ·rw [if_neg c2] at H
  have c2b0:decide (2147483647<(l0_1.length:Int))=false:=decide_eq_false c2
  have c2b1:decide (2147483647<l0_1.length)=false:=decide_eq_false (by omega)
  clear c2
  obtain rfl:=Option.some.inj H
  go_enter Tryz.func51,Tryz.ntmps51
  go_wp2_with (first | ((with_reducible refine gate_dst (N:=1) rfl ?_);refine box_event ?hg (N:=1) ?hd (cs:=#[.int .i64 a0_0,.slice A0_1 l0_1.length c0_1]) (t:=98) ?hr ?_;(case hd=>rfl);(case hg=>rfl);(case hr=>first | (go_simp;done) | (go_simp;rfl));intro gb341 hg w5 hbox hb;have n0_:=Aside0.mk (below_step (by repeat (first | (with_reducible first | exact HB.out | apply below_alloc | apply pw_below_drewN | apply below_drew1) | exact HB.out)) hb);have n1_:=Aside0.mk (hbox);have n2_:=Aside0.mk ((by rw [hg];exact (below_size (by repeat (first | (with_reducible first | exact HB.out | apply below_alloc | apply pw_below_drewN | apply below_drew1) | exact HB.out))):w.heap.size<=gb341));have n3_:=Aside0.mk ((by rw [hg];exact (below_size (by repeat (first | (with_reducible first | exact HB.out | apply below_alloc | apply pw_below_drewN | apply below_drew1) | exact HB.out))):w.heap.size<=gb341));clear HB;have HB:=n0_;have BK341:=n1_;have GW341:=n2_;have GE341:=n3_;clear n0_ n1_ n2_ n3_;clear hb hbox hg;have hcz6_0:w5.cell? ⟨gb341,0,none⟩=some (.int .i64 a0_0):=(blk_cell BK341.out 0).trans rfl;have hcz6_1:w5.cell? ⟨gb341,1,none⟩=some (.slice A0_1 l0_1.length c0_1):=(blk_cell BK341.out 1).trans rfl;have hfz6_0:=blk_frozen BK341.out 0;have hfz6_1:=blk_frozen BK341.out 1))
  go_ret
  exact⟨by first | rfl | (simp [errW_none,errW_some]<;>rfl) | (simp [*,errW_none,errW_some]<;>rfl),by repeat (first | (with_reducible first | exact HB.out | apply below_alloc | apply pw_below_drewN | apply below_drew1 | refine below_set ?_ GE341.out) | exact HB.out)⟩
def laws_zzFits8.l0:Nat->List (S98)->Int->Int->Option (Bool)
 | 0,_,_,_=>none
 | k+1,x8,x9,x10=>if x10<x9 then (if 0<=x10 then (if x10<(x8.length:Int) then ((laws_zzFits9.f ((rd_T98 x8 x10).f0) ((rd_T98 x8 x10).f1)).bind fun t344=>(if t344=true then (laws_zzFits8.l0 k x8 x9 (wrap64 (x10+1))) else (some false))) else (none)) else (none)) else (some true)
def laws_zzFits8.f (k:Nat)(l0:List (S98)):Option (Bool):=if (l0.length:Int)>2147483647 then (some false) else (laws_zzFits8.l0 k l0 (l0.length:Int) 0)
theorem laws_zzFits8.mono_l:∀ k,(∀ y0 y1 y2,LeO (laws_zzFits8.l0 k y0 y1 y2) (laws_zzFits8.l0 (k+1) y0 y1 y2))
 | 0=>fun _ _ _ r h=>by simp [laws_zzFits8.l0] at h
 | k+1=>by
  have ih0:=laws_zzFits8.mono_l k
  ·intro y0 y1 y2
   unfold laws_zzFits8.l0
   repeat' first
   | (with_reducible exact ih0 _ _ _)
   | (with_reducible exact LeO.refl _)
   | (with_reducible exact LeO.none _)
   | (with_reducible refine LeO.ite ?_ ?_)
   | (with_reducible refine LeO.bind ?_ (fun _=>?_))
   | exact ih0 _ _ _
   | exact LeO.none _
   | refine LeO.ite ?_ ?_
   | refine LeO.bind ?_ (fun _=>?_)
theorem laws_zzFits8.mono:∀ a0 k,LeO (laws_zzFits8.f k a0) (laws_zzFits8.f (k+1) a0):=by
 intro a0 k
 have ih0:=laws_zzFits8.mono_l k
 unfold laws_zzFits8.f
 repeat' first
   | (with_reducible exact ih0 _ _ _)
   | (with_reducible exact LeO.refl _)
   | (with_reducible exact LeO.none _)
   | (with_reducible refine LeO.ite ?_ ?_)
   | (with_reducible refine LeO.bind ?_ (fun _=>?_))
   | exact ih0 _ _ _
   | exact LeO.none _
   | refine LeO.ite ?_ ?_
   | refine LeO.bind ?_ (fun _=>?_)
set_option maxHeartbeats 8000000 in
set_option maxRecDepth 100000 in
theorem laws_zzFits8.calls (k:Nat)(A0:Option Addr)(c0:Nat)(l0:List (S98))(r:Bool)(w:World)(hr0:Kd.C k98 w A0 l0.length l0)(hc0:l0.length<=c0)(h:laws_zzFits8.f k l0=some r) :
  Calls Tryz.prog 16 #[.slice A0 l0.length c0] w fun e w'=>e=.returned (.bool r)/\Below w.heap.size w w':=by
 have hu98:=Tryz.underlying98
 have HR0:=Aside0.mk hr0
 have HC0:=Aside0.mk hc0
 clear hr0 hc0
 have HB:=Aside0.mk (Below.refl w.heap.size w)
 have H:(if (l0.length:Int)>2147483647 then (some false) else (laws_zzFits8.l0 k l0 (l0.length:Int) 0))=some r:=h
 clear h
 by_cases c2:(l0.length:Int)>2147483647
 ·rw [if_pos c2] at H
  have c2b0:decide (2147483647<(l0.length:Int))=true:=decide_eq_true c2
  have c2b1:decide (2147483647<l0.length)=true:=decide_eq_true (by omega)
  clear c2
  obtain rfl:=Option.some.inj H
  go_enter Tryz.func16,Tryz.ntmps16
  go_wp2
  go_ret
  exact⟨by first | rfl | (simp [errW_none,errW_some]<;>rfl) | (simp [*,errW_none,errW_some]<;>rfl),by repeat (first | (with_reducible first | exact HB.out | apply below_alloc | apply pw_below_drewN | apply below_drew1) | exact HB.out)⟩
 ·rw [if_neg c2] at H
  have c2b0:decide (2147483647<(l0.length:Int))=false:=decide_eq_false c2
  have c2b1:decide (2147483647<l0.length)=false:=decide_eq_false (by omega)
  clear c2
  have H':=Aside0.mk H
  clear H
  go_enter Tryz.func16,Tryz.ntmps16
  go_wp2
  go_loopg [10] k (fun kq v10 w'=>∃ (x10_1:Int),v10=.int .i64 x10_1/\Aside0 (laws_zzFits8.l0 kq l0 (l0.length:Int) x10_1=some r)/\Aside0 (kq<=k)/\Aside0 (Below w.heap.size w w'))
  case atStart=>exact⟨(0),(by first | rfl | (simp;done) | (simp [*];done)),H',⟨Nat.le_refl _⟩,⟨by repeat (first | (with_reducible first | exact HB.out | apply below_alloc | apply pw_below_drewN | apply below_drew1) | exact HB.out)⟩⟩
  case round=>
   clear H'
   try clear c1
   try clear c2
   try clear c2b0
   try clear c2b1
   try clear p2
   obtain⟨x10_1,rfl,HA,HK1,HB⟩:=hrel
   cases gk with
   | zero=>exact absurd HA.out (by simp [laws_zzFits8.l0])
   | succ k1=>
    have H:=HA.out
    clear HA
    simp only [laws_zzFits8.l0] at H
    by_cases c3:x10_1<(l0.length:Int)
    ·rw [if_pos c3] at H
     have c3b0:decide (x10_1<(l0.length:Int))=true:=decide_eq_true c3
     clear c3
     by_cases c4:0<=x10_1
     ·rw [if_pos c4] at H
      have c4b0:decide (0<=x10_1)=true:=decide_eq_true c4
      clear c4
      by_cases c5:x10_1<(l0.length:Int)
      ·rw [if_pos c5] at H
       have c5b0:decide (x10_1<(l0.length:Int))=true:=decide_eq_true c5
       clear c5
       replace H:=Option.bind_eq_some_iff.mp H
       obtain⟨t344,A60,H⟩:=H
       replace H:(if t344=true then (laws_zzFits8.l0 k1 l0 (l0.length:Int) (wrap64 (x10_1+1))) else (some false))=some r:=H
       have A6:=Aside0.mk A60
       clear A60
       by_cases c7:t344=true
       ·subst c7
        have H1:(laws_zzFits8.l0 k1 l0 (l0.length:Int) (wrap64 (x10_1+1)))=some r:=by rw [if_pos rfl] at H;exact H
        clear H
        have H:=H1
        clear H1
        have H':=Aside0.mk H
        clear H
        have p342:0<=(x10_1:Int):=of_decide_eq_true (by first | (with_reducible assumption) | assumption)
        have q342:x10_1<(l0.length:Int):=of_decide_eq_true (by first | (with_reducible assumption) | assumption)
        obtain⟨ad342,A342_1,c342_1,e342,hx342_0,hx342_1,hl342_1,hi342_1⟩:=at_T98 HR0.out x10_1 p342 q342
        cases e342
        replace hx342_0:=(HB.out.cell (World.block_lt_of_cell? w _ hx342_0)).trans hx342_0
        replace hx342_1:=(HB.out.cell (World.block_lt_of_cell? w _ hx342_1)).trans hx342_1
        have HR342_1:=Aside0.mk hi342_1
        have HC342_1:=Aside0.mk hl342_1
        clear hi342_1 hl342_1
        replace p342:=eq_true p342
        replace q342:=eq_true q342
        go_wp2_with (first | ((with_reducible refine gate_dst (N:=4) rfl ?_);refine box_event ?hg (N:=4) ?hd (cs:=#[.int .i64 0,.slice none 0 0]) (t:=98) ?hr ?_;(case hd=>rfl);(case hg=>rfl);(case hr=>first | (go_simp;done) | (go_simp;rfl));intro gb343 hg w8 hbox hb;have n0_:=Aside0.mk (below_step (by repeat (first | (with_reducible first | exact HB.out | apply below_alloc | apply pw_below_drewN | apply below_drew1) | exact HB.out)) hb);have n1_:=Aside0.mk (hbox);have n2_:=Aside0.mk ((by rw [hg];exact (below_size (by repeat (first | (with_reducible first | exact HB.out | apply below_alloc | apply pw_below_drewN | apply below_drew1) | exact HB.out))):w.heap.size<=gb343));have n3_:=Aside0.mk ((by rw [hg];exact (below_size (by repeat (first | (with_reducible first | exact HB.out | apply below_alloc | apply pw_below_drewN | apply below_drew1) | exact HB.out))):w.heap.size<=gb343));clear HB;have HB:=n0_;have BK343:=n1_;have GW343:=n2_;have GE343:=n3_;clear n0_ n1_ n2_ n3_;clear hb hbox hg;have hcz9_0:w8.cell? ⟨gb343,0,none⟩=some (.int .i64 0):=(blk_cell BK343.out 0).trans rfl;have hcz9_1:w8.cell? ⟨gb343,1,none⟩=some (.slice none 0 0):=(blk_cell BK343.out 1).trans rfl;have hfz9_0:=blk_frozen BK343.out 0;have hfz9_1:=blk_frozen BK343.out 1) | ((with_reducible refine gate_callee (f:=51) rfl ?_);refine goesL_ (some 15) rfl rfl Tryz.func51 (by kernel_rfl) rfl #[.agg #[.int .i64 ((rd_T98 l0 x10_1).f0),.slice A342_1 ((rd_T98 l0 x10_1).f1).length c342_1]] rfl (by (try simp only [List.map_toArray,List.map_cons,List.map_nil]);first | done | rfl | (simp only [List.length_drop,List.length_take];rfl)) ?_;(with_reducible refine (laws_zzFits9.calls ((rd_T98 l0 x10_1).f0) _ _ ((rd_T98 l0 x10_1).f1) true _ ?side1 ?side2 A6.out).mono ?_);(case side1=>exact Kd.C_below HR342_1.out (by repeat (first | (with_reducible first | exact HB.out | apply below_alloc | apply pw_below_drewN | apply below_drew1 | refine below_set ?_ GE343.out) | exact HB.out)));(case side2=>exact HC342_1.out);rintro e w10 ⟨rfl,hb⟩;refine⟨_,rfl,?_⟩;have n0_:=Aside0.mk (blk_below (g:=gb343) (o:=.cells #[.int .i64 ((rd_T98 l0 x10_1).f0),.slice A342_1 ((rd_T98 l0 x10_1).f1).length c342_1] 98 (0,0)) (by (with_reducible repeat (first | refine blk_drewN ?_ _ | refine blk_drew ?_ | refine blk_alloc ?_ _));refine blk_put (cs:=#[.int .i64 ((rd_T98 l0 x10_1).f0),.slice none 0 0]) ?_ 1 _ rfl;(with_reducible repeat (first | refine blk_drewN ?_ _ | refine blk_drew ?_ | refine blk_alloc ?_ _));refine blk_put (cs:=#[.int .i64 0,.slice none 0 0]) ?_ 0 _ rfl;(with_reducible repeat (first | refine blk_drewN ?_ _ | refine blk_drew ?_ | refine blk_alloc ?_ _));exact BK343.out) hb);have n1_:=Aside0.mk (below_step (by repeat (first | (with_reducible first | exact HB.out | apply below_alloc | apply pw_below_drewN | apply below_drew1 | refine below_set ?_ GE343.out) | exact HB.out)) hb);clear BK343;clear HB;have BK343:=n0_;have HB:=n1_;clear n0_ n1_;(try clear hb);(try clear hb2);(try clear hk);(try clear hi)))
        go_roundg k1
        case measure=>have:=HK1.out;omega
        case rel=>exact⟨(wrap64 (x10_1+1)),(by first | rfl | (simp;done) | (simp [*];done)),H',⟨by have:=HK1.out;omega⟩,⟨by repeat (first | (with_reducible first | exact HB.out | apply below_alloc | apply pw_below_drewN | apply below_drew1 | refine below_set ?_ GE343.out) | exact HB.out)⟩⟩
       ·replace c7:=Bool.eq_false_iff.mpr c7
        subst c7
        have H1:(some false)=some r:=by rw [if_neg (show ¬ (false=true) by decide)] at H;exact H
        clear H
        have H:=H1
        clear H1
        obtain rfl:=Option.some.inj H
        have p342:0<=(x10_1:Int):=of_decide_eq_true (by first | (with_reducible assumption) | assumption)
        have q342:x10_1<(l0.length:Int):=of_decide_eq_true (by first | (with_reducible assumption) | assumption)
        obtain⟨ad342,A342_1,c342_1,e342,hx342_0,hx342_1,hl342_1,hi342_1⟩:=at_T98 HR0.out x10_1 p342 q342
        cases e342
        replace hx342_0:=(HB.out.cell (World.block_lt_of_cell? w _ hx342_0)).trans hx342_0
        replace hx342_1:=(HB.out.cell (World.block_lt_of_cell? w _ hx342_1)).trans hx342_1
        have HR342_1:=Aside0.mk hi342_1
        have HC342_1:=Aside0.mk hl342_1
        clear hi342_1 hl342_1
        replace p342:=eq_true p342
        replace q342:=eq_true q342
        go_wp2_with (first | ((with_reducible refine gate_dst (N:=4) rfl ?_);refine box_event ?hg (N:=4) ?hd (cs:=#[.int .i64 0,.slice none 0 0]) (t:=98) ?hr ?_;(case hd=>rfl);(case hg=>rfl);(case hr=>first | (go_simp;done) | (go_simp;rfl));intro gb343 hg w11 hbox hb;have n0_:=Aside0.mk (below_step (by repeat (first | (with_reducible first | exact HB.out | apply below_alloc | apply pw_below_drewN | apply below_drew1) | exact HB.out)) hb);have n1_:=Aside0.mk (hbox);have n2_:=Aside0.mk ((by rw [hg];exact (below_size (by repeat (first | (with_reducible first | exact HB.out | apply below_alloc | apply pw_below_drewN | apply below_drew1) | exact HB.out))):w.heap.size<=gb343));have n3_:=Aside0.mk ((by rw [hg];exact (below_size (by repeat (first | (with_reducible first | exact HB.out | apply below_alloc | apply pw_below_drewN | apply below_drew1) | exact HB.out))):w.heap.size<=gb343));clear HB;have HB:=n0_;have BK343:=n1_;have GW343:=n2_;have GE343:=n3_;clear n0_ n1_ n2_ n3_;clear hb hbox hg;have hcz12_0:w11.cell? ⟨gb343,0,none⟩=some (.int .i64 0):=(blk_cell BK343.out 0).trans rfl;have hcz12_1:w11.cell? ⟨gb343,1,none⟩=some (.slice none 0 0):=(blk_cell BK343.out 1).trans rfl;have hfz12_0:=blk_frozen BK343.out 0;have hfz12_1:=blk_frozen BK343.out 1) | ((with_reducible refine gate_callee (f:=51) rfl ?_);refine goesL_ (some 15) rfl rfl Tryz.func51 (by kernel_rfl) rfl #[.agg #[.int .i64 ((rd_T98 l0 x10_1).f0),.slice A342_1 ((rd_T98 l0 x10_1).f1).length c342_1]] rfl (by (try simp only [List.map_toArray,List.map_cons,List.map_nil]);first | done | rfl | (simp only [List.length_drop,List.length_take];rfl)) ?_;(with_reducible refine (laws_zzFits9.calls ((rd_T98 l0 x10_1).f0) _ _ ((rd_T98 l0 x10_1).f1) false _ ?side1 ?side2 A6.out).mono ?_);(case side1=>exact Kd.C_below HR342_1.out (by repeat (first | (with_reducible first | exact HB.out | apply below_alloc | apply pw_below_drewN | apply below_drew1 | refine below_set ?_ GE343.out) | exact HB.out)));(case side2=>exact HC342_1.out);rintro e w13 ⟨rfl,hb⟩;refine⟨_,rfl,?_⟩;have n0_:=Aside0.mk (blk_below (g:=gb343) (o:=.cells #[.int .i64 ((rd_T98 l0 x10_1).f0),.slice A342_1 ((rd_T98 l0 x10_1).f1).length c342_1] 98 (0,0)) (by (with_reducible repeat (first | refine blk_drewN ?_ _ | refine blk_drew ?_ | refine blk_alloc ?_ _));refine blk_put (cs:=#[.int .i64 ((rd_T98 l0 x10_1).f0),.slice none 0 0]) ?_ 1 _ rfl;(with_reducible repeat (first | refine blk_drewN ?_ _ | refine blk_drew ?_ | refine blk_alloc ?_ _));refine blk_put (cs:=#[.int .i64 0,.slice none 0 0]) ?_ 0 _ rfl;(with_reducible repeat (first | refine blk_drewN ?_ _ | refine blk_drew ?_ | refine blk_alloc ?_ _));exact BK343.out) hb);have n1_:=Aside0.mk (below_step (by repeat (first | (with_reducible first | exact HB.out | apply below_alloc | apply pw_below_drewN | apply below_drew1 | refine below_set ?_ GE343.out) | exact HB.out)) hb);clear BK343;clear HB;have BK343:=n0_;have HB:=n1_;clear n0_ n1_;(try clear hb);(try clear hb2);(try clear hk);(try clear hi)))
        go_ret
        exact⟨by first | rfl | (simp [errW_none,errW_some]<;>rfl) | (simp [*,errW_none,errW_some]<;>rfl),by repeat (first | (with_reducible first | exact HB.out | apply below_alloc | apply pw_below_drewN | apply below_drew1 | refine below_set ?_ GE343.out) | exact HB.out)⟩
      ·rw [if_neg c5] at H
       exact absurd H (by simp)
     ·rw [if_neg c4] at H
      exact absurd H (by simp)
    ·rw [if_neg c3] at H
     have c3b0:decide (x10_1<(l0.length:Int))=false:=decide_eq_false c3
     clear c3
     obtain rfl:=Option.some.inj H
     go_wp2
     go_ret
     exact⟨by first | rfl | (simp [errW_none,errW_some]<;>rfl) | (simp [*,errW_none,errW_some]<;>rfl),by repeat (first | (with_reducible first | exact HB.out | apply below_alloc | apply pw_below_drewN | apply below_drew1) | exact HB.out)⟩
def laws_qrLevel.f (a0:Int):Option (Int):=some (Int.tmod (wrap64 (a0)) 4)
set_option maxHeartbeats 8000000 in
set_option maxRecDepth 100000 in
theorem laws_qrLevel.calls (a0:Int)(r:Int)(w:World)(h:laws_qrLevel.f a0=some r) :
  Calls Tryz.prog 18 #[.int .u8 a0] w fun e w'=>e=.returned (.int .i64 r)/\Drawn0 w w':=by
 have H:(some (Int.tmod (wrap64 (a0)) 4))=some r:=h
 clear h
 obtain rfl:=Option.some.inj H
 go_enter Tryz.func18,Tryz.ntmps18
 go_wp2
 go_ret
 exact⟨by first | rfl | (simp;done) | (simp [*];done),by repeat (first | exact Drawn0.refl _ | apply Drawn0.step)⟩
def laws_qrMask.f (a0:Int):Option (Int):=some (Int.tmod (wrap64 (a0)) 8)
set_option maxHeartbeats 8000000 in
set_option maxRecDepth 100000 in
theorem laws_qrMask.calls (a0:Int)(r:Int)(w:World)(h:laws_qrMask.f a0=some r) :
  Calls Tryz.prog 20 #[.int .u8 a0] w fun e w'=>e=.returned (.int .i64 r)/\Drawn0 w w':=by
 have H:(some (Int.tmod (wrap64 (a0)) 8))=some r:=h
 clear h
 obtain rfl:=Option.some.inj H
 go_enter Tryz.func20,Tryz.ntmps20
 go_wp2
 go_ret
 exact⟨by first | rfl | (simp;done) | (simp [*];done),by repeat (first | exact Drawn0.refl _ | apply Drawn0.step)⟩
end Go.Proofs.YtgccjgpdjkhpdaaGreat.F
