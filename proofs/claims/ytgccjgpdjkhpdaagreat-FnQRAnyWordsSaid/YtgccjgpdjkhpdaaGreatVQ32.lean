import Derived.Test.YtgccjgpdjkhpdaaGreatVQ12
import Derived.Test.YtgccjgpdjkhpdaaGreatVQ31
/-! Own texts of this claim, part 32. -/
namespace Go.Proofs.YtgccjgpdjkhpdaaGreat.F
open Go.RowKit Go.Proofs.YtgccjgpdjkhpdaaGreatW.PrintWords Go.Proofs.YtgccjgpdjkhpdaaGreatW.PrintLast Go.Proofs.YtgccjgpdjkhpdaaGreatW.PrintMore
attribute [local go_sem] max2_int min2_int max_two min_two max_three min_three max_four min_four
set_option linter.unusedVariables false
set_option linter.unusedSimpArgs false
set_option maxHeartbeats 8000000 in
set_option maxRecDepth 100000 in
theorem laws_qrBytes.calls (k:Nat)(A0:Option Addr)(c0:Nat)(l0:List Int)(A1:Option Addr)(c1:Nat)(l1:List Int)(r:Bool)(w:World)(hr0:Kd.C (Kd.int .u8) w A0 l0.length l0)(hc0:l0.length<=c0)(hr1:Kd.C (Kd.int .u8) w A1 l1.length l1)(hc1:l1.length<=c1)(h:laws_qrBytes.f k l0 l1=some r) :
  Calls Tryz.prog 54 #[.slice A0 l0.length c0,.slice A1 l1.length c1] w fun e w'=>e=.returned (.bool r)/\Drawn0 w w':=by
 have HR0:=Aside0.mk hr0
 have HC0:=Aside0.mk hc0
 clear hr0 hc0
 have HR1:=Aside0.mk hr1
 have HC1:=Aside0.mk hc1
 clear hr1 hc1
 have H:(if (l0.length:Int)=(l1.length:Int) then (laws_qrBytes.l0 k l0 l1 (l0.length:Int) 0) else (some false))=some r:=h
 clear h
 by_cases c3:(l0.length:Int)=(l1.length:Int)
 ·rw [if_pos c3] at H
  have c3b0:((l0.length:Int)==(l1.length:Int))=true:=beq_iff_eq.mpr c3
  have c3b1:((l0.length:Int) != (l1.length:Int))=false:=bne_eq_false_iff_eq.mpr c3
  have c3b2:(l0.length==l1.length)=true:=by first | simpa using c3 | (simp at c3 ⊢;omega)
  clear c3
  have H':=Aside0.mk H
  clear H
  go_enter Tryz.func54,Tryz.ntmps54
  go_wp2
  repeat (go_quiet (fail);try go_wp2)
  go_loopg [13] k (fun kq v13 w'=>∃ (x13_1:Int),v13=.int .i64 x13_1/\Aside0 (laws_qrBytes.l0 kq l0 l1 (l0.length:Int) x13_1=some r)/\Aside0 (kq<=k)/\Drawn0 w w')
  case atStart=>exact⟨(0),(by first | rfl | (simp;done) | (simp [*];done)),H',⟨Nat.le_refl _⟩,by repeat (first | exact Drawn0.refl _ | apply Drawn0.step)⟩
  case round=>
   clear H'
   try clear c1
   try clear p2
   try clear c3
   try clear c3b0
   try clear c3b1
   try clear c3b2
   obtain⟨x13_1,rfl,HA,HK1,⟨m1,rfl⟩⟩:=hrel
   cases gk with
   | zero=>exact absurd HA.out (by simp [laws_qrBytes.l0])
   | succ k1=>
    have H:=HA.out
    clear HA
    simp only [laws_qrBytes.l0] at H
    by_cases c4:x13_1<(l0.length:Int)
    ·rw [if_pos c4] at H
     have c4b0:decide (x13_1<(l0.length:Int))=true:=decide_eq_true c4
     clear c4
     by_cases c5:0<=x13_1
     ·rw [if_pos c5] at H
      have c5b0:decide (0<=x13_1)=true:=decide_eq_true c5
      clear c5
      by_cases c6:x13_1<(l0.length:Int)
      ·rw [if_pos c6] at H
       have c6b0:decide (x13_1<(l0.length:Int))=true:=decide_eq_true c6
       clear c6
       by_cases c7:x13_1<(l1.length:Int)
       ·rw [if_pos c7] at H
        have c7b0:decide (x13_1<(l1.length:Int))=true:=decide_eq_true c7
        clear c7
        by_cases c8:(rd l0 x13_1)=(rd l1 x13_1)
        ·rw [if_pos c8] at H
         have c8b0:((rd l0 x13_1)==(rd l1 x13_1))=true:=beq_iff_eq.mpr c8
         have c8b1:((rd l0 x13_1) != (rd l1 x13_1))=false:=bne_eq_false_iff_eq.mpr c8
         clear c8
         have H':=Aside0.mk H
         clear H
         have p418:0<=(x13_1:Int):=of_decide_eq_true (by first | (with_reducible assumption) | assumption)
         have q418:x13_1<(l0.length:Int):=of_decide_eq_true (by first | (with_reducible assumption) | assumption)
         obtain⟨ad418,e418,hx418_0⟩:=Kd.at_int HR0.out x13_1 p418 q418
         cases e418
         replace p418:=eq_true p418
         replace q418:=eq_true q418
         have p419:0<=(x13_1:Int):=of_decide_eq_true (by first | (with_reducible assumption) | assumption)
         have q419:x13_1<(l1.length:Int):=of_decide_eq_true (by first | (with_reducible assumption) | assumption)
         obtain⟨ad419,e419,hx419_0⟩:=Kd.at_int HR1.out x13_1 p419 q419
         cases e419
         replace p419:=eq_true p419
         replace q419:=eq_true q419
         go_wp2
         repeat (go_quiet (fail);try go_wp2)
         go_roundg k1
         case measure=>have:=HK1.out;omega
         case rel=>exact⟨(wrap64 (x13_1+1)),(by first | rfl | (simp;done) | (simp [*];done)),H',⟨by have:=HK1.out;omega⟩,by repeat (first | exact Drawn0.refl _ | apply Drawn0.step)⟩
        ·rw [if_neg c8] at H
         have c8b0:((rd l0 x13_1)==(rd l1 x13_1))=false:=beq_eq_false_iff_ne.mpr c8
         have c8b1:((rd l0 x13_1) != (rd l1 x13_1))=true:=bne_iff_ne.mpr c8
         obtain rfl:=Option.some.inj H
         have p418:0<=(x13_1:Int):=of_decide_eq_true (by first | (with_reducible assumption) | assumption)
         have q418:x13_1<(l0.length:Int):=of_decide_eq_true (by first | (with_reducible assumption) | assumption)
         obtain⟨ad418,e418,hx418_0⟩:=Kd.at_int HR0.out x13_1 p418 q418
         cases e418
         replace p418:=eq_true p418
         replace q418:=eq_true q418
         have p419:0<=(x13_1:Int):=of_decide_eq_true (by first | (with_reducible assumption) | assumption)
         have q419:x13_1<(l1.length:Int):=of_decide_eq_true (by first | (with_reducible assumption) | assumption)
         obtain⟨ad419,e419,hx419_0⟩:=Kd.at_int HR1.out x13_1 p419 q419
         cases e419
         replace p419:=eq_true p419
         replace q419:=eq_true q419
         go_wp2
         repeat (go_quiet (fail);try go_wp2)
         go_ret
         exact⟨by first | rfl | (simp;done) | (simp [*];done),by repeat (first | exact Drawn0.refl _ | apply Drawn0.step)⟩
       ·rw [if_neg c7] at H
        exact absurd H (by simp)
      ·rw [if_neg c6] at H
       exact absurd H (by simp)
     ·rw [if_neg c5] at H
      exact absurd H (by simp)
    ·rw [if_neg c4] at H
     have c4b0:decide (x13_1<(l0.length:Int))=false:=decide_eq_false c4
     clear c4
     obtain rfl:=Option.some.inj H
     go_wp2
     repeat (go_quiet (fail);try go_wp2)
     go_ret
     exact⟨by first | rfl | (simp;done) | (simp [*];done),by repeat (first | exact Drawn0.refl _ | apply Drawn0.step)⟩
 ·rw [if_neg c3] at H
  have c3b0:((l0.length:Int)==(l1.length:Int))=false:=beq_eq_false_iff_ne.mpr c3
  have c3b1:((l0.length:Int) != (l1.length:Int))=true:=bne_iff_ne.mpr c3
  have c3b2:(l0.length==l1.length)=false:=by first | simpa using c3 | (simp at c3 ⊢;omega)
  obtain rfl:=Option.some.inj H
  go_enter Tryz.func54,Tryz.ntmps54
  go_wp2
  repeat (go_quiet (fail);try go_wp2)
  go_ret
  exact⟨by first | rfl | (simp;done) | (simp [*];done),by repeat (first | exact Drawn0.refl _ | apply Drawn0.step)⟩
end Go.Proofs.YtgccjgpdjkhpdaaGreat.F
namespace Go.Proofs.YtgccjgpdjkhpdaaGreat.B
open Go.RowKit Go.Proofs.YtgccjgpdjkhpdaaGreatW.PrintWords Go.Proofs.YtgccjgpdjkhpdaaGreatW.PrintLast Go.Proofs.YtgccjgpdjkhpdaaGreatW.PrintMore
set_option linter.unusedVariables false
set_option linter.unusedSimpArgs false
theorem bytes_same (t:List Int)(hl:t.length<=100000):Ev (fun k=>F.laws_qrBytes.f k t t) true:=by
 have H:∀ (d i:Nat),i+d=t.length->Ev (fun k=>F.laws_qrBytes.l0 k t t (t.length:Int) (i:Int)) true:=by
  intro d
  induction d with
  | zero=>
   intro i hi
   refine Ev.step (f:=fun _=>some true) (fun k=>?_) (Ev.now _)
   rw [F.laws_qrBytes.l0,if_neg (by omega)]
  | succ d ih=>
   intro i hi
   refine Ev.step (fun k=>?_) (ih (i+1) (by omega))
   rw [F.laws_qrBytes.l0,if_pos (by omega),if_pos (by omega),if_pos (by omega),if_pos (by omega),if_pos rfl,w64n i (by omega)]
 exact Ev.congr (fun k=>by rw [F.laws_qrBytes.f,if_pos rfl];rfl) (H t.length 0 (by omega))
theorem bytes54 (w:World)(A0 A1:Option Addr)(c0 c1 k:Nat)(t:List Int)(hk:t.length=k)(hl:k<=100000)(h0:k<=c0)(h1:k<=c1)(r0:Kd.C (Kd.int .u8) w A0 k t)(r1:Kd.C (Kd.int .u8) w A1 k t) :
  Calls Tryz.prog 54 #[.slice A0 k c0,.slice A1 k c1] w fun e w'=>e=.returned (.bool true)/\Below w.heap.size w w':=by
 subst hk
 obtain⟨j,hj⟩:=(bytes_same t hl).rounds
 refine (F.laws_qrBytes.calls j A0 c0 t A1 c1 t true w r0 h0 r1 h1 hj).mono ?_
 rintro e w' ⟨rfl,hd⟩
 exact⟨rfl,hd.below⟩
def segs4 (l:List F.S98):List (List Int):=l.flatMap fun s=>if s.f0=4 then [s.f1] else []
theorem segs4_snoc (l:List F.S98)(s:F.S98)(h:s.f0=4):segs4 (l++[s])=segs4 l++[s.f1]:=by simp [segs4,h]
theorem segs4_skip (l:List F.S98)(s:F.S98)(h:s.f0≠4):segs4 (l++[s])=segs4 l:=by simp [segs4,h]
theorem segs4_app (l k:List F.S98):segs4 (l++k)=segs4 l++segs4 k:=by simp [segs4]
theorem segs4_len (l:List F.S98):(segs4 l).length<=l.length:=by
 induction l with
 | nil=>simp [segs4]
 | cons s l ih=>
  have h0:segs4 (s :: l)=segs4 [s]++segs4 l:=segs4_app [s] l
  rw [h0,List.length_append,List.length_cons]
  have h1:(segs4 [s]).length<=1:=by unfold segs4;simp only [List.flatMap_cons,List.flatMap_nil,List.append_nil];split<;>simp
  omega
set_option maxHeartbeats 4000000 in
set_option maxRecDepth 8000 in
theorem says21 (w:World)(A:Option Addr)(c n lv base:Nat)(l:List F.S98)(bs:List Nat)(st:PS)(d:Value)(hd:DecIs w base lv bs st d)(hl:Kd.C F.k98 w A n l)(hn:l.length=n)(hb:∀ s∈l,s.f1.length<=10000/\∀ x∈s.f1,0<=x/\x<=255)(hn2:n<=10000)
  (hlv:lv<4) (ht:st.out=flatS l) (hs:st.segs=segs4 l) (ha:ascS l=true) :
  Calls Tryz.prog 21 #[d,.slice A n c,.int .i64 (lv:Int)] w fun e w'=>e=.returned (.bool true)/\Below w.heap.size w w':=by
 obtain⟨Ar,cr,As,cs,rfl,_,hsg⟩:=hd
 obtain⟨As',cs',he,hs6,hsC⟩:=Kd.R_reads hsg
 injection he with e1 e2 e3
 subst e1 e3
 clear e2
 rw [ht,hs]
 rw [hs] at hs6 hsC hsg
 obtain⟨M,hM⟩:∃ M,(segs4 l).length=M:=⟨_,rfl⟩
 rw [hM] at hs6 hsC ⊢
 obtain⟨tx,htx⟩:∃ tx,strOfNums (flatS l)=tx:=⟨_,rfl⟩
 rw [htx]
 obtain⟨md,hmd⟩:∃ md:Int,(if st.fc then 3 else 1)=md:=⟨_,rfl⟩
 rw [hmd]
 obtain⟨sq,hsq⟩:∃ sq,st.sq=sq:=⟨_,rfl⟩
 obtain⟨par,hpar⟩:∃ par,st.par=par:=⟨_,rfl⟩
 rw [hsq,hpar]
 obtain⟨m,hm⟩:∃ m,bs.length=m:=⟨_,rfl⟩
 rw [hm]
 obtain⟨nm,hnm⟩:∃ nm,lvName lv=nm:=⟨_,rfl⟩
 rw [hnm]
 have K24:=Aside0.mk (fun (W:World) (hb2:Below w.heap.size w W)=>by
  have h:=said24 W A c n l (Kd.C_below hl hb2) hn hb hn2
  rw [if_pos ha,htx] at h
  exact h)
 have K53:=Aside0.mk (fun (W:World)=>by
  have h:=name53 W lv hlv
  rw [hnm] at h
  exact h)
 have HC:=Aside0.mk hl
 have HN:=Aside0.mk hn
 have HS:=Aside0.mk hb
 have HM:=Aside0.mk hM
 have HSC:=Aside0.mk hsC
 have HS6:=Aside0.mk hs6
 have HSL:=Aside0.mk (show M<=n by rw [<- hM,<- hn];exact segs4_len l)
 clear hsg hs6 hsC hl hn hb hM hlv ht hs ha htx hmd hsq hpar hm hnm
 obtain⟨w0,hw0⟩:∃ w0,w0=w.alloc (.cells #[.string tx,.slice Ar m cr,.slice As M cs,.string nm,.int .i64 0,.int .i64 sq,.int .i64 par,.int .i64 md] 29):=⟨_,rfl⟩
 have HW:=Aside0.mk hw0
 have HB0:=Aside0.mk (show Below w.heap.size w w0 by rw [hw0];exact below_alloc (Below.refl _ _) _)
 have HD0:=Aside0.mk (show Blk w0 w.heap.size 29 #[.string tx,.slice Ar m cr,.slice As M cs,.string nm,.int .i64 0,.int .i64 sq,.int .i64 par,.int .i64 md] by rw [hw0];exact Blk.new _ _ _)
 have k24:=K24.out w0 HB0.out
 clear hw0
 go_enter Tryz.func21,Tryz.ntmps21
 go_wp2_with fail
 rw [<- HW.out]
 go_wp2_with (go_at_call 24;with_reducible (refine k24.mono ?_);rintro e w1 ⟨rfl,hb1⟩;have HB1:=Aside0.mk (HB0.out.trans (hb1.mono HB0.out.size));have HD1:=Aside0.mk (HD0.out.below hb1 HD0.out.lt);clear hb1)
 have d0:=HD1.out.cell 0
 have d3:=HD1.out.cell 3
 clear k24
 have k53:=K53.out w1.drew
 have k53':=K53.out w1
 go_region_with (go_at_call 53;first | (with_reducible (refine k53.mono ?_);rintro e w2 ⟨rfl,rfl⟩) | (with_reducible (refine k53'.mono ?_);rintro e w2 ⟨rfl,rfl⟩))
 all_goals
  clear d0 d3 k53 k53'
  have HB2:=Aside0.mk (show Below w.heap.size w w1.drew from ⟨HB1.out.os,HB1.out.tape,HB1.out.output,HB1.out.size,HB1.out.block⟩)
  have HD2:=Aside0.mk (show Blk w1.drew w.heap.size 29 #[.string tx,.slice Ar m cr,.slice As M cs,.string nm,.int .i64 0,.int .i64 sq,.int .i64 par,.int .i64 md] from HD1.out)
  go_wp2_with fail
  go_loopw [9,30] (fun v9 v30 wr=>∃ (i a:Nat),v30=.int .i64 (i:Int)/\v9=.int .i64 (a:Int)/\i<=n/\a<=i/\Aside0 ((segs4 (l.take i)).length=a)/\Aside0 (Below w.heap.size w wr)/\Aside0 (Blk wr w.heap.size 29 #[.string tx,.slice Ar m cr,.slice As M cs,.string nm,.int .i64 0,.int .i64 sq,.int .i64 par,.int .i64 md])) (fun _ v30 _=>(n-intOf v30).toNat)
  case atStart=>exact⟨0,0,rfl,rfl,Nat.zero_le _,Nat.zero_le _,⟨rfl⟩,HB2,HD2⟩
  case round=>
   clear HB1 HD1 HB2 HD2
   obtain⟨i,a,rfl,rfl,hi,hai,HAT,HB,HD⟩:=hrel
   by_cases hin:i<n
   ·obtain⟨ad,A1,c1,e0,r0,r1,l1,g1⟩:=F.at_T98 HC.out (i:Int) (by omega) (by omega)
    rw [Int.toNat_natCast] at r0 r1
    obtain⟨s,hss⟩:∃ s,F.rd_T98 l i=s:=⟨_,rfl⟩
    rw [hss] at r0 r1 l1 g1
    have hgi:l[i]? = some s:=by
     have hlt:i<l.length:=by rw [HN.out];exact hin
     rw [List.getElem?_eq_getElem hlt,<- hss]
     unfold F.rd_T98
     rw [Int.toNat_natCast,List.getD_eq_getElem?_getD,List.getElem?_eq_getElem hlt]
     rfl
    have hso:=HS.out s (List.mem_of_getElem? hgi)
    have htk:l.take (i+1)=l.take i++[s]:=by rw [List.take_add_one,hgi];rfl
    obtain⟨mo,hmo⟩:∃ mo,s.f0=mo:=⟨_,rfl⟩
    obtain⟨k,hk⟩:∃ k,s.f1.length=k:=⟨_,rfl⟩
    rw [hmo] at r0
    rw [hk] at r1 l1 g1
    subst e0
    replace r0:=cell_up HB.out r0
    replace r1:=cell_up HB.out r1
    have hk9:k<=10000:=by rw [<- hk];exact hso.1
    obtain⟨wa,hwa⟩:∃ wa,wa=wr.alloc (.cells #[.int .i64 mo,.slice A1 k c1] 98):=⟨_,rfl⟩
    have HWA:=Aside0.mk hwa
    have HBA:=Aside0.mk (show Below w.heap.size w wa by rw [hwa];exact HB.out.alloc HB.out.size _)
    have HSA:=Aside0.mk (show Blk wa wr.heap.size 98 #[.int .i64 mo,.slice A1 k c1] by rw [hwa];exact Blk.new _ _ _)
    have HDA:=Aside0.mk (show Blk wa w.heap.size 29 #[.string tx,.slice Ar m cr,.slice As M cs,.string nm,.int .i64 0,.int .i64 sq,.int .i64 par,.int .i64 md] by rw [hwa];exact Blk.below HD.out (below_alloc (Below.refl wr.heap.size wr) _) HD.out.lt)
    have s0:=HSA.out.cell 0
    have s1:=HSA.out.cell 1
    have d2:=HDA.out.cell 2
    by_cases hm4:mo=4
    ·subst hm4
     have HNX:=Aside0.mk (show (segs4 (l.take (i+1))).length=a+1 by rw [htk,segs4_snoc _ _ hmo,List.length_append,HAT.out];rfl)
     have hpre:segs4 l=segs4 (l.take i)++s.f1 :: segs4 (l.drop (i+1)):=by
      have h1:l=l.take (i+1)++l.drop (i+1):=(List.take_append_drop _ _).symm
      conv=>lhs;rw [h1,segs4_app,htk,segs4_snoc _ _ hmo]
      simp
     have haM:a<M:=by
      have h2:=congrArg List.length hpre
      rw [HM.out,List.length_append,HAT.out,List.length_cons] at h2
      omega
     obtain⟨a2,A2,c2,e2,r2,l2,g2⟩:=F.at_L10 HSC.out (a:Int) (by omega) (by omega)
     have hrd:F.rd_L10 (segs4 l) (a:Int)=s.f1:=by
      unfold F.rd_L10
      rw [Int.toNat_natCast,hpre,List.getD_eq_getElem?_getD,List.getElem?_append_right (by rw [HAT.out];exact Nat.le_refl _),HAT.out,Nat.sub_self]
      rfl
     rw [hrd,hk] at r2 l2 g2
     rw [Int.toNat_natCast] at r2
     subst e2
     replace r2:=cell_up HBA.out r2
     have HK54:=Aside0.mk (fun (W:World) (hb:Below w.heap.size w W)=>bytes54 W A2 A1 c2 c1 k s.f1 hk (by omega) l2 l1 (Kd.C_below g2 hb) (Kd.C_below g1 hb))
     have HBD:=Aside0.mk (show Below w.heap.size w wa.drew from ⟨HBA.out.os,HBA.out.tape,HBA.out.output,HBA.out.size,HBA.out.block⟩)
     have k54:=HK54.out wa.drew HBD.out
     have HDD:=Aside0.mk (show Blk wa.drew w.heap.size 29 _ from HDA.out)
     have hge:decide (M<=a)=false:=decide_eq_false (by omega)
     clear hss hgi hso htk hmo hk hwa g1 g2 hpre hrd l1 l2
     go_wp2_with fail
     rw [<- HWA.out]
     go_wp2_with fail
     go_region_with (go_at_call 54;with_reducible (refine k54.mono ?_);rintro e w5 ⟨rfl,hb5⟩;have HB5:=Aside0.mk (HBD.out.trans (hb5.mono HBD.out.size));have HD5:=Aside0.mk (HDD.out.below hb5 HDD.out.lt);clear hb5)
     all_goals
      clear s0 s1 d2 r0 r1 r2 k54
      go_wp2_with fail
      go_roundw
      case rel=>exact⟨i+1,a+1,by go_num,by go_num,by omega,by omega,HNX,HB5,HD5⟩
      case measure=>simp [intOf]<;>omega
    ·have HNX:=Aside0.mk (show (segs4 (l.take (i+1))).length=a by rw [htk,segs4_skip _ _ (by rw [hmo];exact hm4),HAT.out])
     clear hss hgi hso htk hmo hk hwa g1 l1
     go_wp2_with fail
     rw [<- HWA.out]
     clear s0 s1 d2 r0 r1
     go_roundw
     case rel=>exact⟨i+1,a,by go_num,rfl,by omega,by omega,HNX,HBA,HDA⟩
     case measure=>simp [intOf]<;>omega
   ·have hie:i=n:=by omega
    subst hie
    have haM:a=M:=by rw [<- HAT.out,<- HM.out,List.take_of_length_le (by rw [HN.out];exact Nat.le_refl _)]
    subst haM
    have d2:=HD.out.cell 2
    go_wp2_with fail
    go_ret
    exact⟨by simp,HB.out⟩
end Go.Proofs.YtgccjgpdjkhpdaaGreat.B
