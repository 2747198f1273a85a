import Derived.Test.YtgccjgpdjkhpdaaGreatVErrors18
open Go.Proofs.YtgccjgpdjkhpdaaGreatW.PrintWords.Aside0 renaming mk→Mw
open Nat renaming le_refl→Mx
open List renaming replicate→My,length_append→Mz,length_map→MA
/-! Own texts of this claim, part 20. -/
namespace Go.Proofs.YtgccjgpdjkhpdaaGreat.B
open Go.RowKit Go.Proofs.YtgccjgpdjkhpdaaGreatW.PrintWords Go.Proofs.YtgccjgpdjkhpdaaGreatW.PrintLast Go.Proofs.YtgccjgpdjkhpdaaGreatW.PrintMore
set_option linter.unusedVariables false
set_option linter.unusedSimpArgs false
structure EM (w0 W:World)(rs gf m p b:Nat):Prop where
 rs:Blk W rs 196 #[.pointer (some ⟨gf,0,none⟩)]
 gf:bF W gf m p b
 bel:Below w0.heap.size w0 W
theorem EM.step {w0 W W':World}{rs gf m p b:Nat}(h:EM w0 W rs gf m p b)(hb:Below W.heap.size W W'):EM w0 W' rs gf m p b:=⟨h.rs.below hb h.rs.lt,h.gf.below hb (Mx _),h.bel.trans (hb.mono h.bel.size)⟩
theorem EM.cell {w0 W:World}{rs gf m p b:Nat}(h:EM w0 W rs gf m p b):W.cell? ⟨rs,0,none⟩=some (.pointer (some ⟨gf,0,none⟩)):=h.rs.cell 0
theorem iG {P:Program}{f:FuncId}{args:Array Value}{w:World}{R:Ending->Prop}(h:Calls P f args w fun e w'=>R e/\w'=w):Calls P f args w fun e w'=>R e/\w=w':=h.mono fun _ _ h=>⟨h.1,h.2.symm⟩
def lQ (W:World)(v:Value):Nat :=
 match v with
 | .pointer (some a)=>match W.cell? ⟨a.block,1,none⟩ with
  | some (.slice _ n _)=>n
  | _=>0
 | _=>0
theorem aB.len {W:World}{q gf:Nat}{xs:List Nat}(h:aB W q gf xs):lQ W (.pointer (some ⟨q,0,none⟩))=xs.length:=by
 obtain⟨g,o,c,h1,_⟩:=h;have:=h1.cell 1;unfold lQ;simp only [this];rfl
theorem aB.under {W W':World}{q gf:Nat}{xs:List Nat}(h:aB W q gf xs)(hb:Below W.heap.size W W'):aB W' q gf xs:=h.below hb (Mx _)
theorem E7 (N:Nat):dR N 1=1 :: My N 0:=by unfold dR;rw [if_neg (by decide)]
open Po in
set_option maxHeartbeats 8000000 in
set_option maxRecDepth 8000 in
theorem E8 (w:World)(rs gf m p b N qa qb:Nat)[Fi:FF m p](syn_:List Nat)(es:List (El m p×El m p))(hm:m<=12)(hE:EM w w rs gf m p b)(hA:aB w qa gf (dR N 1))(hB:aB w qb gf syn_)(hrow:bz m syn_)(hS:ap m p syn_=dg b N es)(hsl:syn_.length<=N)
  (hN:1<=N) (hN2:N<=1900) (hes:2*es.length<=N) (hnd:(es.map Prod.fst).Nodup) (hne:∀ x∈es,x.1≠0/\x.2≠0) :
  Calls Tryz.prog 179 #[.pointer (some ⟨rs,0,none⟩),.pointer (some ⟨qa,0,none⟩),.pointer (some ⟨qb,0,none⟩),.int .i64 (N:Int)] w fun e w'=>∃ q1 q2 sg om_,e=.returned (.tuple #[.pointer (some ⟨q1,0,none⟩),.pointer (some ⟨q2,0,none⟩),.nilIface])/\aB w' q1 gf sg/\aB w' q2 gf om_/\bz m sg/\bz m om_/\ap m p sg=bh es/\ap m p om_=om b es/\Below w.heap.size w w':=by
 have HES:=Mw hes;have HND:=Mw hnd;have HNE:=Mw hne;have HM:=Mw hm;have hlA:(dR N 1).length=N+1:=by rw [E7];simp
 have HI:=Mw (kK.start (p:=p) hN hrow hS hsl ⟨s9 N 1 (ni Fi.fld),s8 N 1⟩ hlA);have hps:=hrow.pos;have k1:=iG (ku w qa gf _ hA (by rw [hlA];omega))
 have k2:=iG (ku w qb gf _ hB (by omega));rw [hlA,Nat.add_sub_cancel] at k1;obtain⟨ls,hls⟩:∃ ls,syn_.length-1=ls:=⟨_,rfl⟩;rw [hls] at k2;have hlsN:ls<N:=by omega
 have HEM:=Mw hE;have HA:=Mw hA;have HB:=Mw hB;clear hes hnd hne hm hrow hS hA hB hE hls hsl hps hlA
 go_enter Tryz.func179,Tryz.ntmps179
 go_wp2_with fail
 with_reducible (refine k1.mono ?_)
 rintro e _ ⟨rfl,rfl⟩
 go_wp2_with fail
 with_reducible (refine k2.mono ?_)
 rintro e _ ⟨rfl,rfl⟩;have d0:=HEM.out.cell;have k3:=pI w gf m p b HEM.out.gf;clear k1 k2
 go_wp2_with fail
 with_reducible (refine k3.mono ?_)
 rintro e w1 ⟨qz,rfl,hz,hw1⟩;obtain rfl:w=w1:=hw1.symm;have HZ:=Mw hz;have k4:=Mc w gf m p b HEM.out.gf;clear k3 hz hw1
 go_wp2_with fail
 with_reducible (refine k4.mono ?_)
 rintro e w1 ⟨qo,rfl,ho,hw1⟩;obtain rfl:w=w1:=hw1.symm;have HO:=Mw ho;clear k4 ho hw1 d0
 go_wp2_with fail
 go_loopw [11,12,13,14] (fun v11 v12 v13 v14 wr=>∃ (qL qr qtL qt:Nat) (rL r tL t:List Nat),v11=.pointer (some ⟨qL,0,none⟩)/\v12=.pointer (some ⟨qr,0,none⟩)/\v13=.pointer (some ⟨qtL,0,none⟩)/\v14=.pointer (some ⟨qt,0,none⟩)/\Aside0 (EM w wr rs gf m p b)/\Aside0 (aB wr qL gf rL)/\Aside0 (aB wr qr gf r)/\Aside0 (aB wr qtL gf tL)/\Aside0 (aB wr qt gf t)/\Aside0 (kK m p N (dg b N es) rL r tL t)) (fun _ v12 _ _ wr=>lQ wr v12)
 case atStart=>exact⟨qa,qb,qz,qo,_,_,_,_,rfl,rfl,rfl,rfl,HEM,HA,HB,HZ,HO,HI⟩
 case round=>
  clear HEM HA HB HZ HO HI;obtain⟨qL,qr,qtL,qt,rL,r,tL,t,rfl,rfl,rfl,rfl,HEM,HA,HB,HTL,HT,HI⟩:=hrel;obtain⟨wo,hwo⟩:∃ wo,wo=wr:=⟨_,rfl⟩;subst hwo;have HBL0:=Mw HB.out.len;have hb1:=HI.out.l1;have hb2:=HI.out.l2;have hb3:=HI.out.l3;have hb4:=HI.out.l4;have hp2:=HI.out.r2.pos;have hp3:=HI.out.r3.pos;have hp4:=HI.out.r4.pos;have k1:=iG (ku wo qr gf r HB.out (by omega));obtain⟨lr,hlr⟩:∃ lr,r.length-1=lr:=⟨_,rfl⟩;have HLR:=Mw hlr;rw [hlr] at k1;have hlr2:lr<=2000:=by omega
  by_cases hgo:N<=2*lr;rotate_left
  ·have HEND:=Mw (show 2*(r.length-1)<N by omega);have hlt2:t.length<=1901/\r.length<=1901:=by omega
   have k5:=po wo qt gf 0 t HT.out (by omega) (by omega);rw [Nat.sub_zero,show ((0:Nat):Int)=0 from rfl] at k5;obtain⟨t0,ht0⟩:∃ t0,t.getD (t.length-1) 0=t0:=⟨_,rfl⟩;have ht0l:t0<2 ^ m:=by rw [<- ht0];exact aF HI.out.r4.lt _
   have hfind:=fun iv hi hv=>HI.out.finds (b:=b) hN HEND.out HES.out HND.out HNE.out iv hi hv
   have ht0n:t0≠0:=by rw [<- ht0];exact (hfind (br m p t0) (g6 Fi.fld _) (by rw [ht0];by_cases h:t0=0;exact .inr h;exact .inl (so Fi.fld Fi.prim t0 h ht0l))).1
   have hfin:=hfind (br m p t0) (g6 Fi.fld _) (.inl (by rw [ht0];exact so Fi.fld Fi.prim t0 ht0n ht0l))
   have K6:=Mw (fun W (h:bF W gf m p b)=>pK W gf m p b t0 Fi.fld Fi.prim HM.out h ht0l ht0n);obtain⟨iv,hiv⟩:∃ iv,br m p t0=iv:=⟨_,rfl⟩;have hivl:iv<2 ^ m:=by rw [<- hiv];exact g6 Fi.fld t0
   rw [hiv] at K6 hfin;have HFIN:=Mw hfin.2;have K7:=Mw (fun W (hG:bF W gf m p b) (h:aB W qt gf t)=>xe W qt gf m p b iv t Fi.fld Fi.prim HM.out hG h HI.out.r4.lt hivl (by omega));have K8:=Mw (fun W (hG:bF W gf m p b) (h:aB W qr gf r)=>xe W qr gf m p b iv r Fi.fld Fi.prim HM.out hG h HI.out.r2.lt hivl (by omega));have HR3:=Mw (show bz m (iB m p iv t)/\bz m (iB m p iv r) from ⟨⟨xA Fi.fld iv HI.out.r4.lt,xu m p iv t HI.out.r4.norm⟩,⟨xA Fi.fld iv HI.out.r2.lt,xu m p iv r HI.out.r2.norm⟩⟩);rw [ht0] at k5;have hb0:((t0:Int)==0)=false:=by simp;omega
   clear hfind hfin ht0 hiv hb1 hb2 hb3 hb4 hp2 hp3 hp4 hlr
   go_wp2_with fail
   with_reducible (refine k1.mono ?_)
   rintro e _ ⟨rfl,rfl⟩;clear k1
   go_wp2_with fail
   with_reducible (refine k5.mono ?_)
   rintro e w1 ⟨rfl,hd1⟩;have HEM1:=Mw (HEM.out.step hd1.below);have HB1:=Mw (HB.out.under hd1.below);have HT1:=Mw (HT.out.under hd1.below);have d1:=HEM1.out.cell;clear hd1 k5 HEM HB HT HTL HA
   go_wp2_with fail
   with_reducible (refine (K6.out _ HEM1.out.gf).mono ?_)
   rintro e w2 ⟨rfl,hd2⟩;have HEM2:=Mw (HEM1.out.step hd2.below);have HB2:=Mw (HB1.out.under hd2.below);have HT2:=Mw (HT1.out.under hd2.below);clear hd2 d1 HEM1 HB1 HT1
   go_wp2_with fail
   with_reducible (refine (K7.out _ HEM2.out.gf HT2.out).mono ?_)
   rintro e w3 ⟨qs,rfl,hs3,hb3⟩;have HS3:=Mw hs3;have HEM3:=Mw (HEM2.out.step hb3);have HB3:=Mw (HB2.out.under hb3);clear hs3 hb3 HEM2 HB2 HT2
   go_wp2_with fail
   with_reducible (refine (K8.out _ HEM3.out.gf HB3.out).mono ?_)
   rintro e w4 ⟨qm,rfl,hm4,hb4⟩;have HM4:=Mw hm4;have HS4:=Mw (HS3.out.under hb4);have HEM4:=Mw (HEM3.out.step hb4);clear hm4 hb4 HEM3 HB3 HS3
   go_wp2_with fail
   go_ret3
   exact⟨qs,qm,_,_,rfl,HS4.out,HM4.out,HR3.out.1,HR3.out.2,HFIN.out.1,HFIN.out.2,HEM4.out.bel⟩
  have hr2:2<=r.length:=by omega
  have hlead:=HI.out.r2.lead hr2;have HLEAD:=Mw hlead;have k2:=iG (og wo qr gf r HB.out (by omega));rw [decide_eq_false hlead] at k2;have d0:=HEM.out.cell;have k3:=pI wo gf m p b HEM.out.gf;have k5:=fun W (h:aB W qr gf r)=>po W qr gf lr r h (by omega) (by omega)
  rw [show r.length-1-lr=0 by omega] at k5;obtain⟨ld,hld⟩:∃ ld,r.getD 0 0=ld:=⟨_,rfl⟩;rw [hld] at k5;have hldl:ld<2 ^ m:=by rw [<- hld];exact aF HI.out.r2.lt 0
  have hld0:ld≠0:=by rw [<- hld];exact hlead
  have K6:=Mw (fun W (h:bF W gf m p b)=>pK W gf m p b ld Fi.fld Fi.prim HM.out h hldl hld0);obtain⟨iv,hiv⟩:∃ iv,br m p ld=iv:=⟨_,rfl⟩;rw [hiv] at K6;have HIVL:=Mw (show iv<2 ^ m by rw [<- hiv];exact g6 Fi.fld ld)
  have HIV:=Mw (show gm m p (r.getD 0 0) iv=1 by rw [hld,<- hiv];exact so Fi.fld Fi.prim ld hld0 hldl)
  have HLN:=Mw (show rL.length<=1901/\r.length<=1901/\t.length<=1901/\tL.length<=1901 by omega);have HR2:=Mw hr2;have HGO:=Mw (show N+2<=2*r.length by omega);have HK:=Mw (iG (ku wo qr gf r HB.out (by omega)));have HDS:=Mw (lL.start (p:=p) HI.out.r1 (show r.length<=rL.length by omega));clear hld hiv hldl hld0 hb1 hb2 hb3 hb4 hp2 hp3 hp4 hlead hr2 hlr
  go_wp2_with fail
  with_reducible (refine k1.mono ?_)
  rintro e _ ⟨rfl,rfl⟩
  go_wp2_with fail
  with_reducible (refine k2.mono ?_)
  rintro e _ ⟨rfl,rfl⟩
  go_wp2_with fail
  with_reducible (refine k3.mono ?_)
  rintro e w1 ⟨qz2,rfl,hz,hw1⟩;obtain rfl:wo=w1:=hw1.symm;have HZ:=Mw hz;clear k2 k3 hz hw1
  go_wp2_with fail
  with_reducible (refine k1.mono ?_)
  rintro e _ ⟨rfl,rfl⟩
  go_wp2_with fail
  with_reducible (refine (k5 _ HB.out).mono ?_)
  rintro e w1 ⟨rfl,hd1⟩;have HEM1:=Mw (HEM.out.step hd1.below);have HA1:=Mw (HA.out.under hd1.below);have HB1:=Mw (HB.out.under hd1.below);have HTL1:=Mw (HTL.out.under hd1.below);have HT1:=Mw (HT.out.under hd1.below);have HZ1:=Mw (HZ.out.under hd1.below);have d1:=HEM1.out.cell;clear hd1 d0 k1 k5 HEM HA HB HTL HT HZ HK
  go_wp2_with fail
  with_reducible (refine (K6.out _ HEM1.out.gf).mono ?_)
  rintro e w2 ⟨rfl,hd2⟩;have HEM2:=Mw (HEM1.out.step hd2.below);have HA2:=Mw (HA1.out.under hd2.below);have HB2:=Mw (HB1.out.under hd2.below);have HTL2:=Mw (HTL1.out.under hd2.below);have HT2:=Mw (HT1.out.under hd2.below);have HZ2:=Mw (HZ1.out.under hd2.below);clear hd2 d1 K6 HEM1 HA1 HB1 HTL1 HT1 HZ1
  go_wp2_with fail
  go_loopw [12,17] (fun v12 v17 wr=>∃ (qR qQ:Nat) (R Q:List Nat),v12=.pointer (some ⟨qR,0,none⟩)/\v17=.pointer (some ⟨qQ,0,none⟩)/\Aside0 (EM w wr rs gf m p b)/\Aside0 (aB wr qr gf r)/\Aside0 (aB wr qtL gf tL)/\Aside0 (aB wr qt gf t)/\Aside0 (aB wr qR gf R)/\Aside0 (aB wr qQ gf Q)/\Aside0 (lL m p rL r Q R)) (fun v12 _ wr=>lQ wr v12)
  case atStart=>exact⟨qL,qz2,rL,[0],rfl,rfl,HEM2,HB2,HTL2,HT2,HA2,HZ2,HDS⟩
  case round=>
   clear HEM2 HA2 HB2 HTL2 HT2 HZ2 HDS;obtain⟨qR,qQ,R,Q,rfl,rfl,HEM,HB,HTL,HT,HR,HQ,HD⟩:=hrel;obtain⟨wi,hwi⟩:∃ wi,wi=wr:=⟨_,rfl⟩;subst hwi;have HRL0:=Mw HR.out.len;have hR1:=HD.out.rr.pos;have hR2:=HD.out.len;have hQ1:=HD.out.rq.pos;have hQ2:=HD.out.qlen;have hL1:=HLN.out;have hL2:=HR2.out;have k1:=iG (ku wi qR gf R HR.out (by omega));have k2:=iG (ku wi qr gf r HB.out (by omega));obtain⟨lR,hlR⟩:∃ lR,R.length-1=lR:=⟨_,rfl⟩;rw [hlR] at k1;rw [HLR.out] at k2;have hlR3:lR<=2000:=by omega
   by_cases hge:lr<=lR;rotate_left
   ·have HLT:=Mw (show R.length<r.length by have:=HLR.out;omega)
    have HDL:=Mw (show R.length<=1901/\Q.length<=1901 by omega);have hnd2:¬ (lr<=lR):=hge;have K8:=Mw (fun W (hG:bF W gf m p b) (h1:aB W qQ gf Q) (h2:aB W qt gf t)=>DU W qQ qt gf m p b Q t Fi.fld Fi.prim HM.out hG h1 h2 HD.out.rq.lt HI.out.r4.lt (by omega) (by omega));obtain⟨Y,hY⟩:∃ Y,eN m p Q t=Y:=⟨_,rfl⟩;have HYR:=Mw (show bz m Y by rw [<- hY];exact⟨xD Fi.fld HD.out.rq.lt,xC m p Q t⟩)
    have hYl:Y.length<=2000:=by
     have h1:=xO m p Q t HD.out.rq.norm.1 HI.out.r4.norm.1;have h2:=HI.out.l2;have h3:=HI.out.l1;rw [hY] at h1;omega
    rw [hY] at K8;have K9:=Mw (fun W qY (h1:aB W qY gf Y) (h2:aB W qtL gf tL)=>s7 W qY qtL gf m Y tL HM.out h1 h2 HYR.out.lt HI.out.r3.lt hYl (by omega));have HST:=Mw (HI.out.step HGO.out HD.out HLT.out);rw [hY] at HST;have K1:=Mw (fun W (h:aB W qR gf R)=>iG (ku W qR gf R h (by omega)));have K2:=Mw (fun W (h:aB W qr gf r)=>iG (ku W qr gf r h (by omega)));rw [hlR] at K1;rw [HLR.out] at K2;clear hR1 hR2 hQ1 hQ2 hL1 hL2 hlR hY hYl
    go_wp2_with fail
    with_reducible (refine k1.mono ?_)
    rintro e _ ⟨rfl,rfl⟩
    go_wp2_with fail
    with_reducible (refine k2.mono ?_)
    rintro e _ ⟨rfl,rfl⟩;clear k1 k2
    go_wp2_with fail
    with_reducible (refine (K8.out _ HEM.out.gf HQ.out HT.out).mono ?_)
    rintro e w3 ⟨qY,rfl,hy3,hb3⟩;have HY1:=Mw hy3;have HEM1:=Mw (HEM.out.step hb3);have HB1:=Mw (HB.out.under hb3);have HTL1:=Mw (HTL.out.under hb3);have HT1:=Mw (HT.out.under hb3);have HR1:=Mw (HR.out.under hb3);clear hy3 hb3 HEM HB HTL HT HR HQ
    go_wp2_with fail
    with_reducible (refine (K9.out _ qY HY1.out HTL1.out).mono ?_)
    rintro e w4 ⟨qt2,rfl,ht4,hb4⟩;have HT2:=Mw ht4;have HEM2:=Mw (HEM1.out.step hb4);have HB2:=Mw (HB1.out.under hb4);have HTo2:=Mw (HT1.out.under hb4);have HR2:=Mw (HR1.out.under hb4);clear ht4 hb4 HEM1 HB1 HTL1 HT1 HR1 HY1
    go_wp2_with fail
    with_reducible (refine (K1.out _ HR2.out).mono ?_)
    rintro e _ ⟨rfl,rfl⟩
    go_wp2_with fail
    with_reducible (refine (K2.out _ HB2.out).mono ?_)
    rintro e _ ⟨rfl,rfl⟩
    go_wp2_with fail
    go_roundw
    case rel=>exact⟨qr,qR,qt,qt2,_,_,_,_,rfl,rfl,rfl,rfl,HEM2,HB2,HR2,HTo2,HT2,HST⟩
    case measure=>
     show lQ w4 (.pointer (some ⟨qR,0,none⟩))<lQ wo (.pointer (some ⟨qr,0,none⟩));rw [HR2.out.len,HBL0.out];exact HLT.out
   have hR2':2<=R.length:=by have:=HLR.out;omega
   have hRl:=HD.out.rr.lead hR2';have k3:=iG (og wi qR gf R HR.out (by omega));rw [decide_eq_false hRl] at k3;obtain⟨dd,hdd⟩:∃ dd,R.length-r.length=dd:=⟨_,rfl⟩;have hddi:(lR:Int)-(lr:Int)=(dd:Int):=by have:=HLR.out;omega
   have hdd2:dd<=2000:=by omega
   obtain⟨lc,hlc⟩:∃ lc,R.getD 0 0=lc:=⟨_,rfl⟩;have hlcl:lc<2 ^ m:=by rw [<- hlc];exact aF HD.out.rr.lt 0
   obtain⟨sc,hsc⟩:∃ sc,gm m p lc iv=sc:=⟨_,rfl⟩;have hscl:sc<2 ^ m:=by rw [<- hsc];exact cD Fi.fld _ _ hlcl
   have q1:=fun k=>ku (wi.drewN k) qR gf R (HR.out.drawn k) (by omega)
   rw [hlR] at q1;have q2:=fun k=>po (wi.drewN k) qR gf lR R (HR.out.drawn k) (by omega) (by omega)
   rw [show R.length-1-lR=0 by omega,hlc] at q2;have q3:=fun k=>lw (wi.drewN k) gf m p b lc iv Fi.fld Fi.prim HM.out (HEM.out.gf.drawn k) hlcl HIVL.out
   rw [hsc] at q3;have K4:=Mw (fun W (h:bF W gf m p b)=>wX W gf m p b dd sc HM.out h hscl hdd2);obtain⟨M,hM⟩:∃ M,dR dd sc=M:=⟨_,rfl⟩;have HMR:=Mw (show bz m M by rw [<- hM];exact⟨s9 dd sc hscl,s8 dd sc⟩)
   have hMl:M.length<=2000:=by rw [<- hM];have:=xN dd sc;omega
   rw [hM] at K4;have K5:=Mw (fun W (h1:aB W qQ gf Q) qM (h2:aB W qM gf M)=>s7 W qQ qM gf m Q M HM.out h1 h2 HD.out.rq.lt HMR.out.lt (by omega) hMl);have K6:=Mw (fun W (hG:bF W gf m p b) (h1:aB W qr gf r)=>Dn W qr gf m p b dd sc r Fi.fld Fi.prim HM.out hG h1 HI.out.r2.lt hscl hdd2 (by omega));obtain⟨X,hX⟩:∃ X,fK m p dd sc r=X:=⟨_,rfl⟩;have HXR:=Mw (show bz m X by rw [<- hX];exact⟨xz Fi.fld dd sc HI.out.r2.lt,xt m p dd sc r⟩)
   have hXl:X.length<=2000:=by rw [<- hX];have:=Dz m p dd sc r HI.out.r2.norm.1;omega
   rw [hX] at K6;have K7:=Mw (fun W (h1:aB W qR gf R) qX (h2:aB W qX gf X)=>s7 W qR qX gf m R X HM.out h1 h2 HD.out.rr.lt HXR.out.lt (by omega) hXl);have hst:=HD.out.step HI.out.r2 hL2 (by have:=HLR.out;omega) iv HIVL.out HIV.out
   rw [hdd,hlc,hsc,hM,hX] at hst;have HST:=Mw hst;have d0:=HEM.out.cell;clear hR1 hR2 hQ1 hQ2 hL1 hL2 hlR hR2' hRl hdd hlc hlcl hsc hscl hM hMl hX hXl hst
   go_wp2_with fail
   with_reducible (refine k1.mono ?_)
   rintro e _ ⟨rfl,rfl⟩
   go_wp2_with fail
   with_reducible (refine k2.mono ?_)
   rintro e _ ⟨rfl,rfl⟩
   go_wp2_with fail
   with_reducible (refine k3.mono ?_)
   rintro e _ ⟨rfl,rfl⟩
   go_wp2_with fail
   with_reducible (refine k1.mono ?_)
   rintro e _ ⟨rfl,rfl⟩
   go_wp2_with fail
   with_reducible (refine k2.mono ?_)
   rintro e _ ⟨rfl,rfl⟩
   go_wp2_with fail
   clear k1 k2 k3
   go_quiet (first
    | (go_at_call 187;exact Calls.quiet_of_same (q1 _))
    | (go_at_call 185;exact Calls.quiet_of (q2 _))
    | (go_at_call 186;exact Calls.quiet_of (q3 _)))
   clear q1 q2 q3 d0;have hdr:=au (Below.refl wi.heap.size wi) nq;have HEM1:=Mw (HEM.out.step hdr);have HB1:=Mw (HB.out.under hdr);have HTL1:=Mw (HTL.out.under hdr);have HT1:=Mw (HT.out.under hdr);have HR1:=Mw (HR.out.under hdr);have HQ1:=Mw (HQ.out.under hdr);obtain⟨w3,hw3⟩:∃ w3,w3=wi.drewN nq:=⟨_,rfl⟩;rw [<- hw3] at HEM1 HB1 HTL1 HT1 HR1 HQ1 ⊢;have d1:=HEM1.out.cell;clear hdr hw3 HEM HB HTL HT HR HQ
   go_wp2_with fail
   with_reducible (refine (K4.out _ HEM1.out.gf).mono ?_)
   rintro e w4 ⟨qM,rfl,hM4,hb4⟩;have HM4:=Mw hM4;have HEM2:=Mw (HEM1.out.step hb4);have HB2:=Mw (HB1.out.under hb4);have HTL2:=Mw (HTL1.out.under hb4);have HT2:=Mw (HT1.out.under hb4);have HR2:=Mw (HR1.out.under hb4);have HQ2:=Mw (HQ1.out.under hb4);clear hM4 hb4 d1 HEM1 HB1 HTL1 HT1 HR1 HQ1
   go_wp2_with fail
   with_reducible (refine (K5.out _ HQ2.out qM HM4.out).mono ?_)
   rintro e w5 ⟨qQ2,rfl,hq5,hb5⟩;have HQ3:=Mw hq5;have HEM3:=Mw (HEM2.out.step hb5);have HB3:=Mw (HB2.out.under hb5);have HTL3:=Mw (HTL2.out.under hb5);have HT3:=Mw (HT2.out.under hb5);have HR3:=Mw (HR2.out.under hb5);clear hq5 hb5 HEM2 HB2 HTL2 HT2 HR2 HQ2 HM4
   go_wp2_with fail
   with_reducible (refine (K6.out _ HEM3.out.gf HB3.out).mono ?_)
   rintro e w6 ⟨qX,rfl,hx6,hb6⟩;have HX4:=Mw hx6;have HEM4:=Mw (HEM3.out.step hb6);have HB4:=Mw (HB3.out.under hb6);have HTL4:=Mw (HTL3.out.under hb6);have HT4:=Mw (HT3.out.under hb6);have HR4:=Mw (HR3.out.under hb6);have HQ4:=Mw (HQ3.out.under hb6);clear hx6 hb6 HEM3 HB3 HTL3 HT3 HR3 HQ3
   go_wp2_with fail
   with_reducible (refine (K7.out _ HR4.out qX HX4.out).mono ?_)
   rintro e w7 ⟨qR2,rfl,hr7,hb7⟩;have HR5:=Mw hr7;have HEM5:=Mw (HEM4.out.step hb7);have HB5:=Mw (HB4.out.under hb7);have HTL5:=Mw (HTL4.out.under hb7);have HT5:=Mw (HT4.out.under hb7);have HQ5:=Mw (HQ4.out.under hb7);clear hr7 hb7 HEM4 HB4 HTL4 HT4 HR4 HQ4 HX4
   go_wp2_with fail
   go_roundw
   case rel=>exact⟨qR2,qQ2,_,_,rfl,rfl,HEM5,HB5,HTL5,HT5,HR5,HQ5,⟨HST.out.1⟩⟩
   case measure=>
    show lQ w7 (.pointer (some ⟨qR2,0,none⟩))<lQ wi (.pointer (some ⟨qR,0,none⟩));rw [HR5.out.len,HRL0.out];exact HST.out.2
open Po in
def ja (m p:Nat)(sg:List Nat)(k i:Nat):List Nat:=(ck m p sg i).map (br m p)++My (k-(ck m p sg i).length) 0
open Po in
theorem E9 (m p:Nat)(sg:List Nat)(k i:Nat)(h:(ck m p sg i).length<=k):(ja m p sg k i).length=k:=by
 unfold ja;rw [Mz,MA,List.length_replicate];omega
open Po in
theorem Fa (m p:Nat)[Fi:FF m p](sg:List Nat)(k i:Nat)(h:(ck m p sg i).length<k)(h0:i≠0)(hr:ao m p i sg=0):(ja m p sg k i).set (ck m p sg i).length (br m p i)=ja m p sg k (i+1):=by
 unfold ja;rw [qB,if_pos ⟨h0,hr⟩,List.map_append,Mz];have hl:((ck m p sg i).map (br m p)).length=(ck m p sg i).length:=MA _;rw [List.set_append_right _ _ (by omega),hl,Nat.sub_self,show k-(ck m p sg i).length=k-((ck m p sg i).length+1)+1 by omega,List.replicate_succ,List.set_cons_zero,List.append_assoc];rfl
open Po in
theorem yx (m p:Nat)[Fi:FF m p](sg:List Nat):ck m p sg 1=[]:=by
 rw [qB,if_neg (fun h=>h.1 rfl)];rfl
open Po in
set_option maxHeartbeats 8000000 in
set_option maxRecDepth 8000 in
theorem Fb (w:World)(rs gf m p b qs:Nat)[Fi:FF m p](sg:List Nat)(es:List (El m p×El m p))(hm:m<=12)(hE:EM w w rs gf m p b)(hQ:aB w qs gf sg)(hr:bz m sg)(he:ap m p sg=bh es)(h0:∀ x∈es,x.1≠0)(hn:(es.map Prod.fst).Nodup)(h1:1<=es.length)(hle:es.length<=1000) :
  Calls Tryz.prog 180 #[.pointer (some ⟨rs,0,none⟩),.pointer (some ⟨qs,0,none⟩)] w fun e w'=>∃ g locs c,e=.returned (.tuple #[.slice (some ⟨g,0,none⟩) es.length c,.nilIface])/\ag w' g locs/\iX m p es locs/\es.length<=c/\w.heap.size<=g/\Below w.heap.size w w':=by
 have hl:=tj hr he h0;have hps:=hr.pos;obtain⟨k,hk⟩:∃ k,es.length=k:=⟨_,rfl⟩;rw [hk] at hl h1 hle ⊢;have k1:=iG (ku w qs gf sg hQ (by omega));rw [hl,Nat.add_sub_cancel] at k1;have HM:=Mw hm;have HE:=Mw hE;have HQ:=Mw hQ;have HR:=Mw hr;by_cases hone:k=1
 ·subst hone;have HL:=Mw (DJ hr he h0 hk);have k2:=po w qs gf 1 sg hQ (by omega) (by omega);rw [hl,show 1+1-1-1=0 from rfl] at k2;obtain⟨x,hx⟩:∃ x,sg.getD 0 0=x:=⟨_,rfl⟩;rw [hx] at k2 HL;rw [show ((1:Nat):Int)=1 from rfl] at k1 k2;clear hl hps hk hx hm hE hQ hr he h0 hn
  go_enter Tryz.func180,Tryz.ntmps180
  go_wp2_with fail
  with_reducible (refine k1.mono ?_)
  rintro e _ ⟨rfl,rfl⟩
  go_wp2_with fail
  with_reducible (refine k2.mono ?_)
  rintro e w2 ⟨rfl,hd2⟩;have HB2:=Mw hd2.below;clear k1 k2 hd2
  go_wp2_with fail
  go_ret2
  exact⟨w2.heap.size,[x],1,rfl,Blk.new _ _ _,HL.out,Mx _,HB2.out.size,HB2.out.alloc HB2.out.size _⟩
 have HRL:=Mw (fun i hi=>DI hr he h0 hn i hi);have hkb:((k:Int)==1)=false:=by simp;omega
 have hmk:=kJ k (by omega) w;obtain⟨w1,hw1⟩:∃ w1,w1=w.alloc (.cells (ac .i64 (ak (My k 0))).toArray 3):=⟨_,rfl⟩;rw [<- hw1] at hmk;obtain⟨gs,hgs⟩:∃ gs,gs=w.heap.size:=⟨_,rfl⟩;have hb1:Below w.heap.size w w1:=by rw [hw1];exact ai (Below.refl _ _) _
 have HZ1:=Mw (show ag w1 gs (ja m p sg k 1) by rw [hw1,hgs];unfold ja;rw [yx];exact Blk.new _ _ _)
 have HE1:=Mw (hE.step hb1);have HQ1:=Mw (hQ.under hb1);have HGS:=Mw (show w.heap.size<=gs by rw [hgs];exact Mx _)
 rw [<- hgs] at hmk;obtain⟨SZ,hSZ⟩:∃ SZ,2 ^ m=SZ:=⟨_,rfl⟩;have hSZ4:SZ<=4096:=by rw [<- hSZ];exact Nat.le_trans (Nat.pow_le_pow_right (by omega) hm) (by decide)
 have hSZ1:1<=SZ:=by rw [<- hSZ];exact Nat.two_pow_pos m
 have HSZ:=Mw hSZ;have HK:=Mw hk;have KSZ:=Mw (fun W (h:bF W gf m p b)=>iG (Md W gf m p b h));rw [hSZ] at KSZ;have hsl:sg.length<=2000:=by omega
 have HSL:=Mw hsl;clear hl hps hw1 hgs hm hE hQ hr he h0 hn hk hb1 hSZ hsl
 go_enter Tryz.func180,Tryz.ntmps180
 go_wp2_with fail
 with_reducible (refine k1.mono ?_)
 rintro e _ ⟨rfl,rfl⟩;clear k1
 go_wp2_with fail
 clear hmk
 go_loopw [8,9,10] (fun v8 v9 v10 wr=>∃ i n:Nat,v9=.int .i64 (i:Int)/\v8=.int .i64 (n:Int)/\1<=i/\i<=SZ/\n<=k/\Aside0 ((ck m p sg i).length=n)/\Aside0 (EM w wr rs gf m p b)/\Aside0 (aB wr qs gf sg)/\Aside0 (ag wr gs (ja m p sg k i))) (fun _ v9 _ _=>(SZ-intOf v9).toNat)
 case atStart=>exact⟨1,0,rfl,rfl,Mx _,hSZ1,Nat.zero_le _,⟨by rw [yx];rfl⟩,HE1,HQ1,HZ1⟩
 case round=>
  clear HE1 HQ1 HZ1;obtain⟨i,n,rfl,rfl,hi1,hiS,hnk,HRT,HEr,HQr,HZ⟩:=hrel;have d0:=HEr.out.cell;have ks:=KSZ.out wr HEr.out.gf;by_cases hfin:i<SZ/\n<k;rotate_left
  ·have hnk2:n=k:=by
    obtain⟨r1,r2,_⟩:=HRL.out i (by rw [HSZ.out];exact hiS)
    rw [HRT.out,HK.out] at r1 r2;rw [HSZ.out] at r2;by_cases h:i<SZ
    ·omega
    exact r2 (by omega)
   subst hnk2;have HLC:=Mw ((HRL.out i (by rw [HSZ.out];exact hiS)).2.2 (by rw [HRT.out,HK.out]))
   have HZF:=Mw (show ag wr gs ((ck m p sg i).map (br m p)) by
    have h:=HZ.out;unfold ja at h;rw [HRT.out,Nat.sub_self,List.replicate_zero,List.append_nil] at h;exact h)
   by_cases hiS2:i<SZ
   ·go_wp2_with fail
    with_reducible (refine ks.mono ?_)
    rintro e _ ⟨rfl,rfl⟩
    go_wp2_with fail
    go_ret2
    exact⟨gs,_,n,rfl,HZF.out,HLC.out,Mx _,HGS.out,HEr.out.bel⟩
   go_wp2_with fail
   with_reducible (refine ks.mono ?_)
   rintro e _ ⟨rfl,rfl⟩
   go_wp2_with fail
   go_ret2
   exact⟨gs,_,n,rfl,HZF.out,HLC.out,Mx _,HGS.out,HEr.out.bel⟩
  obtain⟨hiS2,hnk2⟩:=hfin;have k2:=se wr qs gf m p b i sg Fi.fld Fi.prim HM.out HEr.out.gf HQr.out HR.out.lt (by rw [HSZ.out];exact hiS2) (by have:=HSL.out;omega)
  obtain⟨y,hy⟩:∃ y,ao m p i sg=y:=⟨_,rfl⟩;rw [hy] at k2;have HY:=Mw hy;clear hy
  go_wp2_with fail
  with_reducible (refine ks.mono ?_)
  rintro e _ ⟨rfl,rfl⟩;clear ks
  go_wp2_with fail
  with_reducible (refine k2.mono ?_)
  rintro e w2 ⟨rfl,hd2⟩;have HE2:=Mw (HEr.out.step hd2.below);have HQ2:=Mw (HQr.out.under hd2.below);have HZ2:=Mw (show ag w2 gs (ja m p sg k i) from Blk.below HZ.out hd2.below (Blk.lt HZ.out));have d2:=HE2.out.cell;clear k2 hd2 d0 HEr HQr HZ;by_cases hy0:y=0;rotate_left
  ·have hyb:((y:Int)==0)=false:=by simp;omega
   have HFS:=Mw (show ck m p sg (i+1)=ck m p sg i by rw [qB,if_neg (fun h=>hy0 (HY.out.symm.trans h.2))]);clear hy0
   go_wp2_with fail
   go_roundw
   case rel=>exact⟨i+1,n,by go_num,rfl,by omega,by omega,hnk,⟨by rw [HFS.out];exact HRT.out⟩,HE2,HQ2,⟨by unfold ja;rw [HFS.out];exact HZ2.out⟩⟩
   case measure=>simp [intOf]<;>omega
  subst hy0;have HFS:=Mw (Fa m p sg k i (by rw [HRT.out];exact hnk2) (by omega) HY.out)
  have HRS:=Mw (show (ck m p sg (i+1)).length=n+1 by rw [qB,if_pos ⟨by omega,HY.out⟩,Mz,HRT.out];rfl)
  rw [HRT.out] at HFS;have k3:=pK w2 gf m p b i Fi.fld Fi.prim HM.out HE2.out.gf (by rw [HSZ.out];exact hiS2) (by omega)
  obtain⟨v,hv⟩:∃ v,br m p i=v:=⟨_,rfl⟩;rw [hv] at k3 HFS;clear hv
  go_wp2_with fail
  with_reducible (refine k3.mono ?_)
  rintro e w3 ⟨rfl,hd3⟩;have HE3:=Mw (HE2.out.step hd3.below);have HQ3:=Mw (HQ2.out.under hd3.below);have hZ3:ag w3 gs (ja m p sg k i):=Blk.below HZ2.out hd3.below (Blk.lt HZ2.out);have z1:=hZ3.cell n (by rw [E9 m p sg k i (by rw [HRT.out];exact hnk)];exact hnk2)
  have z2:w3.frozen? ⟨gs,n,none⟩=false:=Blk.frozen hZ3 _;have hZ4:=hZ3.set n v;rw [HFS.out] at hZ4;have HZ4:=Mw hZ4;have hbs:Below w.heap.size w3 (w3.setCell ⟨gs,n,none⟩ (.int .i64 (v:Int))):=(af.set w3 gs n _).below HGS.out;have hb4:=HE3.out.bel.trans hbs;have HE4:=Mw (HE.out.step hb4);have HQ4:=Mw (HQ.out.under hb4);clear hZ3 hZ4 hbs hb4 hd3 k3
  go_wp2_with fail
  go_roundw
  case rel=>exact⟨i+1,n+1,by go_num,by go_num,by omega,by omega,by omega,HRS,HE4,HQ4,HZ4⟩
  case measure=>simp [intOf]<;>omega
end Go.Proofs.YtgccjgpdjkhpdaaGreat.B
namespace Go.Proofs.YtgccjgpdjkhpdaaGreat.B
open Go.Proofs.YtgccjgpdjkhpdaaGreat.F (pu_ ta_ no_ hv_ hvS_)
open Go.RowKit Go.Proofs.YtgccjgpdjkhpdaaGreatW.PrintWords Go.Proofs.YtgccjgpdjkhpdaaGreatW.PrintLast Go.Proofs.YtgccjgpdjkhpdaaGreatW.PrintMore
set_option linter.unusedVariables false
set_option linter.unusedSimpArgs false
def yy:Bool×List (List Nat×List Nat):=(true,[([],[]),([],[]),([],[]),([2],[2]),([3],[3]),([4],[4]),([],[]),([],[]),([6,7],[6,7]),([],[]),([5,8,9,8],[5,8,9]),([0,1,0,1,2,3,4,5,6,7,8,9,10],[0,1]),([11,10,10,0,1,2,3,4,5,6,7,8,9,10],[10,11])])
def Fc:List Nat:=[0,0,0,4,12,28,0,0,192,0,1020,2047,4095]
theorem Fd:cH .any (lC Tryz.f181 23)=yy:=by kernel_rfl
theorem Fe:iw yy.2 Fc=true:=by kernel_rfl
def yz:Bool×List (List Nat×List Nat):=(true,[([],[]),([],[]),([],[]),([2],[2]),([3],[3]),([4],[4]),([],[]),([],[]),([6,7],[6,7]),([8],[8]),([],[]),([5,9,10],[5,9,10]),([0,1,0,1,2,3,4,5,6,7,8,9,10,11],[0,1]),([12,11,11,0,1,2,3,4,5,6,7,8,9,10,11],[11,12])])
def Ff:List Nat:=[0,0,0,4,12,28,0,0,192,448,0,2044,4095,8191]
theorem Fg:cH .any (lC Tryz.f181 25)=yz:=by kernel_rfl
theorem Fh:iw yz.2 Ff=true:=by kernel_rfl
def o5 (t:Nat):Prop:=(t%2=0->Go.bits .and .i64 (t:Int) 1=0/\Go.bits .or .i64 (t:Int) 1=((t ^^^ 1:Nat):Int))/\(t%2=1->Go.bits .and .i64 (t:Int) 1=1/\Go.bits .and .i64 (t:Int) (-2)=((t ^^^ 1:Nat):Int))
instance (t:Nat):Decidable (o5 t):=by unfold o5;infer_instance
theorem Fj:∀ a:Fin 64,∀ c:Fin 64,o5 (64*a.val+c.val):=by decide +kernel
theorem Fk (t:Nat)(h:t<4096):o5 t:=by
 have:=Fj ⟨t/64,by omega⟩ ⟨t%64,by omega⟩;simp only [Nat.div_add_mod] at this;exact this
open Po in
def dF (m p b:Nat)(locs om_:List Nat)(i:Nat):List Nat:=(List.range i).map (iD m p b locs om_)++My (locs.length-i) 0
open Po in
theorem Fl (m p b:Nat)(locs om_:List Nat)(i:Nat)(h:i<=locs.length):(dF m p b locs om_ i).length=locs.length:=by
 unfold dF;rw [Mz,MA,List.length_range,List.length_replicate];omega
open Po in
theorem yA (m p b:Nat)(locs om_:List Nat)(i:Nat)(h:i<locs.length):(dF m p b locs om_ i).set i (iD m p b locs om_ i)=dF m p b locs om_ (i+1):=by
 unfold dF;have hl:((List.range i).map (iD m p b locs om_)).length=i:=by rw [MA,List.length_range]
 rw [List.set_append_right _ _ (by omega),hl,Nat.sub_self,show locs.length-i=locs.length-(i+1)+1 by omega,List.replicate_succ,List.set_cons_zero,List.range_succ,List.map_append,List.append_assoc];rfl
theorem Fm (xs:List Nat)(i a c:Nat):(xs.set i a).set i c=xs.set i c:=List.set_set ..
theorem yB (xs:List Nat)(i a:Nat)(h:i<xs.length):(xs.set i a).getD i 0=a:=by
 rw [List.getD_eq_getElem?_getD,List.getElem?_set_self h];rfl
open Po in
set_option maxHeartbeats 16000000 in
set_option maxRecDepth 8000 in
theorem Fn (w:World)(rs gf m p b qo gl cl k:Nat)[Fi:FF m p](locs om_:List Nat)(hm:m<=12)(hb:b<=1)(hE:EM w w rs gf m p b)(hQ:aB w qo gf om_)(hr:bz m om_)(hL:ag w gl locs)(hll:locs.length=k)(hlt:ab m locs)(hk:k<=1000)(hcl:k<=cl)(hol:om_.length<=2000)(hl0:∀ i,i<k->locs.getD i 0≠0)(hd0:∀ i,i<k->dT m p locs i (br m p (locs.getD i 0)) k≠0) :
  Calls Tryz.prog 181 #[.pointer (some ⟨rs,0,none⟩),.pointer (some ⟨qo,0,none⟩),.slice (some ⟨gl,0,none⟩) k cl] w fun e w'=>∃ g c,e=.returned (.tuple #[.slice (some ⟨g,0,none⟩) k c,.nilIface])/\ag w' g ((List.range k).map (iD m p b locs om_))/\k<=c/\w.heap.size<=g/\Below w.heap.size w w':=by
 have HM:=Mw hm;have HE:=Mw hE;have HQ:=Mw hQ;have HR:=Mw hr;have HL:=Mw hL;have HLT:=Mw hlt;have HLL:=Mw hll;have HL0:=Mw hl0;have HD0:=Mw hd0;have HOL:=Mw hol;have hmk:=kJ k (by omega) w;obtain⟨w1,hw1⟩:∃ w1,w1=w.alloc (.cells (ac .i64 (ak (My k 0))).toArray 3):=⟨_,rfl⟩;rw [<- hw1] at hmk;obtain⟨gs,hgs⟩:∃ gs,gs=w.heap.size:=⟨_,rfl⟩;have HB1:=Mw (show Below w.heap.size w w1 by rw [hw1];exact ai (Below.refl _ _) _)
 have HZ1:=Mw (show ag w1 gs (dF m p b locs om_ 0) by rw [hw1,hgs];unfold dF;rw [hll];exact Blk.new _ _ _)
 have HGS:=Mw (show w.heap.size<=gs by rw [hgs];exact Mx _)
 rw [<- hgs] at hmk;clear hm hE hQ hr hL hlt hll hl0 hd0 hol hw1 hgs
 go_enter Tryz.func181,Tryz.ntmps181
 go_wp2_with fail
 clear hmk
 go_loopw [10,11,12,13,14,15,16,17] (fun v10 v11 v12 v13 v14 v15 v16 v17 wr=>∃ i:Nat,v10=.int .i64 (i:Int)/\i<=k/\Aside0 (Below w.heap.size w wr)/\Aside0 (ag wr gs (dF m p b locs om_ i))) (fun v10 _ _ _ _ _ _ _ _=>(k-intOf v10).toNat)
 case atStart=>exact⟨0,rfl,Nat.zero_le _,HB1,HZ1⟩
 case round=>
  clear HB1 HZ1;obtain⟨i,rfl,hik,HBr,HZ⟩:=hrel;obtain⟨wo,hwo⟩:∃ wo,wo=wr:=⟨_,rfl⟩;subst hwo;by_cases hlt:i<k;rotate_left
  ·have hie:i=k:=by omega
   subst hie;have HZF:=Mw (show ag wo gs ((List.range i).map (iD m p b locs om_)) by
    have h:=HZ.out;unfold dF at h;rw [HLL.out,Nat.sub_self,List.replicate_zero,List.append_nil] at h;exact h)
   go_wp2_with fail
   go_ret2
   exact⟨gs,i,rfl,HZF.out,Mx _,HGS.out,HBr.out⟩
  have HEr:=Mw (HE.out.step HBr.out);have d0:=HEr.out.cell;have r0:wo.cell? ⟨gl,i,none⟩=some (.int .i64 ((locs.getD i 0:Nat):Int)):=(show ag wo gl locs from Blk.below HL.out HBr.out (Blk.lt HL.out)).cell i (by rw [HLL.out];exact hlt)
  obtain⟨X,hX⟩:∃ X,locs.getD i 0=X:=⟨_,rfl⟩;rw [hX] at r0;have hXl:X<2 ^ m:=by rw [<- hX];exact aF HLT.out i
  have hX0:X≠0:=by rw [<- hX];exact HL0.out i hlt
  have k1:=fun kk=>pK (wo.drewN kk) gf m p b X Fi.fld Fi.prim HM.out (HEr.out.gf.drawn kk) hXl hX0
  obtain⟨y,hy⟩:∃ y,br m p X=y:=⟨_,rfl⟩;rw [hy] at k1;have HYL:=Mw (show y<2 ^ m by rw [<- hy];exact g6 Fi.fld X)
  have HDN:=Mw (show dT m p locs i y k≠0 by have:=HD0.out i hlt;rw [hX,hy] at this;exact this)
  have HMAG:=Mw (show iD m p b locs om_ i=if b=0 then gm m p (ao m p y om_) (br m p (dT m p locs i y k)) else gm m p (gm m p (ao m p y om_) (br m p (dT m p locs i y k))) y by unfold iD;rw [hX,hy,HLL.out])
  clear hX hXl hX0 hy
  go_wp2
  go_quiet ((go_at_call 191;exact Calls.quiet_of (k1 _)))
  clear k1 r0 d0;have HB2:=Mw (HBr.out.trans ((au (Below.refl wo.heap.size wo) nq).mono HBr.out.size));have HZ2:=Mw (show ag (wo.drewN nq) gs (dF m p b locs om_ i) from Blk.below HZ.out (au (Below.refl wo.heap.size wo) nq) (Blk.lt HZ.out));obtain⟨w2,hw2⟩:∃ w2,w2=wo.drewN nq:=⟨_,rfl⟩;rw [<- hw2] at HB2 HZ2 ⊢;clear hw2 HBr HZ HEr
  go_wp2_with fail
  go_loopw [13,14,15,16] (fun v13 v14 v15 v16 wr=>∃ j:Nat,v14=.int .i64 (j:Int)/\j<=k/\v13=.int .i64 ((dT m p locs i y j:Nat):Int)/\Aside0 (Below w.heap.size w wr)/\Aside0 (ag wr gs (dF m p b locs om_ i))) (fun _ v14 _ _ _=>(k-intOf v14).toNat)
  case atStart=>exact⟨0,rfl,Nat.zero_le _,rfl,HB2,HZ2⟩
  case round=>
   clear HB2 HZ2;obtain⟨j,rfl,hjk,rfl,HBr,HZ⟩:=hrel;have HEr:=Mw (HE.out.step HBr.out);have d0:=HEr.out.cell;by_cases hjl:j<k
   ·obtain⟨dn,hdn⟩:∃ dn,dT m p locs i y j=dn:=⟨_,rfl⟩;have HDL:=Mw (show dn<2 ^ m by rw [<- hdn];exact qF locs i y HLT.out j)
    rw [hdn];by_cases hij:i=j
    ·subst hij;have HD2:=Mw (show dT m p locs i y (i+1)=dn by rw [dT,if_pos rfl,hdn]);clear hdn
     go_wp2_with fail
     go_roundw
     case rel=>exact⟨i+1,by go_num,by omega,by rw [HD2.out],HBr,HZ⟩
     case measure=>simp [intOf]<;>omega
    have r1:wr.cell? ⟨gl,j,none⟩=some (.int .i64 ((locs.getD j 0:Nat):Int)):=(show ag wr gl locs from Blk.below HL.out HBr.out (Blk.lt HL.out)).cell j (by rw [HLL.out];exact hjl)
    obtain⟨X2,hX2⟩:∃ X2,locs.getD j 0=X2:=⟨_,rfl⟩;rw [hX2] at r1;have hX2l:X2<2 ^ m:=by rw [<- hX2];exact aF HLT.out j
    have k2:=fun kk=>lw (wr.drewN kk) gf m p b X2 y Fi.fld Fi.prim HM.out (HEr.out.gf.drawn kk) hX2l HYL.out
    obtain⟨t,ht⟩:∃ t,gm m p X2 y=t:=⟨_,rfl⟩;rw [ht] at k2;have htl:t<2 ^ m:=by rw [<- ht];exact cD Fi.fld _ _ hX2l
    have ht4:t<4096:=Nat.lt_of_lt_of_le htl (Nat.le_trans (Nat.pow_le_pow_right (by omega) HM.out) (by decide));obtain⟨u,hu⟩:∃ u,t ^^^ 1=u:=⟨_,rfl⟩;have hul:u<2 ^ m:=by rw [<- hu];exact fZ _ _ _ htl (ni Fi.fld)
    have HD2:=Mw (show dT m p locs i y (j+1)=gm m p dn u by rw [dT,if_neg hij,hdn,hX2,ht,hu]);have K3:=Mw (fun W (h:bF W gf m p b)=>lw W gf m p b dn u Fi.fld Fi.prim HM.out h HDL.out hul);obtain⟨dn2,hdn2⟩:∃ dn2,gm m p dn u=dn2:=⟨_,rfl⟩;rw [hdn2] at K3 HD2;have hbl:=Fk t ht4;unfold o5 at hbl;rw [hu] at hbl;have hijb:((i:Int)==(j:Int))=false:=by simp;omega
    have hpar:(t%2=0/\Go.bits .and .i64 (t:Int) 1=0/\Go.bits .or .i64 (t:Int) 1=(u:Int))\/(t%2=1/\Go.bits .and .i64 (t:Int) 1=1/\Go.bits .and .i64 (t:Int) (-2)=(u:Int)):=by
     rcases Nat.mod_two_eq_zero_or_one t with h | h
     ·exact .inl ⟨h,hbl.1 h⟩
     exact .inr ⟨h,hbl.2 h⟩
    clear hdn hX2 hX2l ht htl ht4 hu hul hdn2 hbl
    go_wp2
    go_quiet ((go_at_call 186;exact Calls.quiet_of (k2 _)))
    clear k2 r1 d0;have HB3:=Mw (HBr.out.trans ((au (Below.refl wr.heap.size wr) nq).mono HBr.out.size));have HZ3:=Mw (show ag (wr.drewN nq) gs (dF m p b locs om_ i) from Blk.below HZ.out (au (Below.refl wr.heap.size wr) nq) (Blk.lt HZ.out));obtain⟨w3,hw3⟩:∃ w3,w3=wr.drewN nq:=⟨_,rfl⟩;rw [<- hw3] at HB3 HZ3 ⊢;have HE3:=Mw (HE.out.step HB3.out);have d3:=HE3.out.cell;clear hw3 HBr HZ HEr;rcases hpar with⟨hp0,hp1,hp2⟩ | ⟨hp0,hp1,hp2⟩
    all_goals
     clear hp0
     go_wp2_with fail
     with_reducible (refine (K3.out _ HE3.out.gf).mono ?_)
     rintro e w4 ⟨rfl,hd4⟩;have HB4:=Mw (HB3.out.trans (hd4.below.mono HB3.out.size));have HZ4:=Mw (show ag w4 gs (dF m p b locs om_ i) from Blk.below HZ3.out hd4.below (Blk.lt HZ3.out));clear hd4 hp1 hp2
     go_wp2_with fail
     go_roundw
     case rel=>exact⟨j+1,by go_num,by omega,by rw [HD2.out],HB4,HZ4⟩
     case measure=>simp [intOf]<;>omega
   have hje:j=k:=by omega
   subst hje;obtain⟨dn,hdn⟩:∃ dn,dT m p locs i y j=dn:=⟨_,rfl⟩;have hdl:dn<2 ^ m:=by rw [<- hdn];exact qF locs i y HLT.out j
   have hd0:dn≠0:=by rw [<- hdn];exact HDN.out
   have hmag:=HMAG.out;rw [hdn] at hmag ⊢;have k4:=pK wr gf m p b dn Fi.fld Fi.prim HM.out HEr.out.gf hdl hd0;obtain⟨iv,hiv⟩:∃ iv,br m p dn=iv:=⟨_,rfl⟩;have hivl:iv<2 ^ m:=by rw [<- hiv];exact g6 Fi.fld dn
   rw [hiv] at k4 hmag;obtain⟨ev_,hev⟩:∃ ev_,ao m p y om_=ev_:=⟨_,rfl⟩;have hevl:ev_<2 ^ m:=by rw [<- hev];exact jf Fi.fld y om_ HR.out.lt
   have KE:=Mw (fun W (hG:bF W gf m p b) (h:aB W qo gf om_)=>se W qo gf m p b y om_ Fi.fld Fi.prim HM.out hG h HR.out.lt HYL.out (by have:=HOL.out;omega))
   rw [hev] at KE hmag;have KM:=Mw (fun W (h:bF W gf m p b)=>lw W gf m p b ev_ iv Fi.fld Fi.prim HM.out h hevl hivl);obtain⟨t,ht⟩:∃ t,gm m p ev_ iv=t:=⟨_,rfl⟩;have htl:t<2 ^ m:=by rw [<- ht];exact cD Fi.fld _ _ hevl
   rw [ht] at KM hmag;have HMG:=Mw hmag;have hzb:(dF m p b locs om_ i).length=j:=by rw [Fl m p b locs om_ i (by rw [HLL.out];exact hik),HLL.out]
   have HZB:=Mw hzb;clear hdn hdl hd0 hmag hiv hivl hev hevl ht HDN HMAG hzb
   go_wp2_with fail
   with_reducible (refine k4.mono ?_)
   rintro e w3 ⟨rfl,hd3⟩;have HB3:=Mw (HBr.out.trans (hd3.below.mono HBr.out.size));have HZ3:=Mw (show ag w3 gs (dF m p b locs om_ i) from Blk.below HZ.out hd3.below (Blk.lt HZ.out));have HE3:=Mw (HE.out.step HB3.out);clear hd3 k4 d0 HBr HZ HEr;have d3:=HE3.out.cell;have z1:=HZ3.out.cell i (by rw [HZB.out];exact hlt)
   have z2:w3.frozen? ⟨gs,i,none⟩=false:=Blk.frozen HZ3.out _;have e1:=eq_true (show (0:Int)<=(i:Int) by omega);have e2:=eq_true (show (i:Int)<(j:Int) by omega);have HB3d:=Mw (HB3.out.trans ((au (Below.refl w3.heap.size w3) 1).mono HB3.out.size));have ke:Calls Tryz.prog 175 #[.pointer (some ⟨qo,0,none⟩),.int .i64 (y:Int)] w3.drew fun e w'=>e=.returned (.int .i64 (ev_:Int))/\Drawn w3.drew w':=KE.out (w3.drewN 1) (HE.out.step HB3d.out).gf (HQ.out.under HB3d.out)
   go_wp2_with fail
   refine ji (n:=13) (S:=fun w'=>w'.cell? ⟨rs,0,none⟩=some (.pointer (some ⟨gf,0,none⟩))) (ds:=[12]) #[false,false,false,false,false,false,false,false,false,false,false,false,false] (by kernel_rfl) rfl rfl d3 (fun hHeld=>?_);refine jn Fd Fe (fun HT_ HW_=>?_);refine pu_ 0 86 HT_ ?_;refine pu_ 1 87 HT_ ?_;refine pu_ 2 88 HT_ ?_;refine pu_ 3 89 HT_ ?_;refine pu_ 4 90 HT_ ?_;refine pu_ 6 92 HT_ ?_;refine pu_ 7 93 HT_ ?_;refine pu_ 9 95 HT_ ?_;refine ta_ 5 91 HT_ HW_ hHeld ?_;refine hJ (i:=8) (N:=some 94) #[true,true,true,true,true,true,true,true,true,true,false,false,false] rfl rfl (dJ HT_.out (by kernel_rfl)) (by decide) (fun K hK=>?_);refine ia Tryz.func175 (by kernel_rfl) rfl #[.pointer (some ⟨qo,0,none⟩),.int .i64 (y:Int)] (by rfl) rfl rfl (by (try simp only [List.map_toArray,List.map_cons,List.map_nil]);first | done | rfl) ?_
   refine (ke).mono ?_;rintro e0 w5 ⟨rfl,hd_w5⟩;have HB5:=Mw (HB3d.out.trans (hd_w5.below.mono HB3d.out.size));have HZ5:=Mw (show ag w5 gs (dF m p b locs om_ i) from Blk.below (show ag w3.drew gs (dF m p b locs om_ i) from HZ3.out) hd_w5.below (Blk.lt HZ3.out));have HE5:=Mw (HE.out.step HB5.out);have d5:=HE5.out.cell;clear hd_w5 ke;refine⟨_,rfl,?_⟩;refine hK.out _ _ d5 (fun hHeld=>?_);clear hK K;refine no_ ?_;refine hJ (i:=10) (N:=some 96) #[true,true,true,true,true,true,true,true,true,true,true,false,false] rfl rfl (dJ HT_.out (by kernel_rfl)) (by decide) (fun K hK=>?_);refine ia Tryz.func186 (by kernel_rfl) rfl #[.pointer (some ⟨gf,0,none⟩),.int .i64 (ev_:Int),.int .i64 (iv:Int)] (by rfl) rfl rfl (by (try simp only [List.map_toArray,List.map_cons,List.map_nil]);first | done | rfl) ?_
   refine (KM.out _ HE5.out.gf).mono ?_;rintro e0 w6 ⟨rfl,hd_w6⟩;have HB6:=Mw (HB5.out.trans (hd_w6.below.mono HB5.out.size));have HZ6:=Mw (show ag w6 gs (dF m p b locs om_ i) from Blk.below HZ5.out hd_w6.below (Blk.lt HZ5.out));have d6:=(HE.out.step HB6.out).cell;have zz1:=HZ6.out.cell i (by rw [HZB.out];exact hlt)
   have zz2:w6.frozen? ⟨gs,i,none⟩=false:=Blk.frozen HZ6.out _;clear hd_w6 d5 HB5 HZ5 HE5;refine⟨_,rfl,?_⟩;refine hK.out _ _ d6 (fun hHeld=>?_);clear hK K;refine no_ ?_;refine pu_ 11 97 HT_ ?_;refine jj (i:=12) (N:=none) #[true,true,true,true,true,true,true,true,true,true,true,true,true] rfl rfl (dJ HT_.out (by kernel_rfl)) (by decide) (fun K hK=>?_);refine jl (w1:=?_) (by rfl) rfl ?_ ?_;rotate_left
   ·go_simp
    rfl
   refine hK.out _ _ ?_;clear hK K;refine jk (jm HT_.out (by kernel_rfl)) ?_;obtain⟨w7,hw7⟩:∃ w7,w7=w6.setCell ⟨gs,i,none⟩ (.int .i64 (t:Int)):=⟨_,rfl⟩;rw [<- hw7];have HB7:=Mw (show Below w.heap.size w w7 by rw [hw7];exact HB6.out.trans ((af.set w6 gs i _).below HGS.out))
   have HZ7:=Mw (show ag w7 gs ((dF m p b locs om_ i).set i t) by rw [hw7];exact ag.set HZ6.out i t)
   have HE7:=Mw (HE.out.step HB7.out);have d7:=HE7.out.cell;have k5:=iG (uF w7 gf m p b HE7.out.gf);clear hw7 hHeld HT_ HW_ z1 z2 zz1 zz2 e1 e2 d3 HB6 HZ6 HZ3 HB3 HE3 HB3d;by_cases hb0:b=0
   ·subst hb0;have HF:=Mw (show (dF m p 0 locs om_ i).set i t=dF m p 0 locs om_ (i+1) by rw [<- yA m p 0 locs om_ i (by rw [HLL.out];exact hlt),HMG.out,if_pos rfl])
    rw [show ((0:Nat):Int)=0 from rfl] at k5
    go_wp2_with fail
    with_reducible (refine k5.mono ?_)
    rintro e _ ⟨rfl,rfl⟩;clear k5
    go_wp2_with fail
    go_roundw
    case rel=>exact⟨i+1,by go_num,by omega,HB7,⟨by rw [<- HF.out];exact HZ7.out⟩⟩
    case measure=>simp [intOf]<;>omega
   have hbb:((b:Int) != 0)=true:=by simp;omega
   have KM2:=Mw (fun W (h:bF W gf m p b)=>lw W gf m p b t y Fi.fld Fi.prim HM.out h htl HYL.out);obtain⟨t2,ht2⟩:∃ t2,gm m p t y=t2:=⟨_,rfl⟩;rw [ht2] at KM2;have HF:=Mw (show ((dF m p b locs om_ i).set i t).set i t2=dF m p b locs om_ (i+1) by rw [Fm,<- yA m p b locs om_ i (by rw [HLL.out];exact hlt),HMG.out,if_neg hb0,ht2])
   have z1:w7.cell? ⟨gs,i,none⟩=some (.int .i64 (t:Int)):=by
    have h:=HZ7.out.cell i (by rw [List.length_set,HZB.out];exact hlt)
    rw [yB _ _ _ (by rw [HZB.out];exact hlt)] at h
    exact h
   have z2:w7.frozen? ⟨gs,i,none⟩=false:=Blk.frozen HZ7.out _;have e1:=eq_true (show (0:Int)<=(i:Int) by omega);have e2:=eq_true (show (i:Int)<(j:Int) by omega);have HB7d:=Mw (HB7.out.trans ((au (Below.refl w7.heap.size w7) 1).mono HB7.out.size));have km2:Calls Tryz.prog 186 #[.pointer (some ⟨gf,0,none⟩),.int .i64 (t:Int),.int .i64 (y:Int)] w7.drew fun e w'=>e=.returned (.int .i64 (t2:Int))/\Drawn w7.drew w':=KM2.out (w7.drewN 1) (HE.out.step HB7d.out).gf
   clear ht2 hb0
   go_wp2_with fail
   with_reducible (refine k5.mono ?_)
   rintro e _ ⟨rfl,rfl⟩;clear k5
   go_wp2_with fail
   refine ji (n:=14) (S:=fun w'=>w'.cell? ⟨rs,0,none⟩=some (.pointer (some ⟨gf,0,none⟩))/\w'.cell? ⟨gs,i,none⟩=some (.int .i64 (t:Int))) (ds:=[13]) #[false,false,false,false,false,false,false,false,false,false,false,false,false,false] (by kernel_rfl) rfl rfl ⟨d7,z1⟩ (fun hHeld=>?_);refine jn Fg Fh (fun HT_ HW_=>?_);refine pu_ 0 104 HT_ ?_;refine pu_ 1 105 HT_ ?_;refine pu_ 2 106 HT_ ?_;refine pu_ 3 107 HT_ ?_;refine pu_ 4 108 HT_ ?_;refine pu_ 6 110 HT_ ?_;refine pu_ 7 111 HT_ ?_;refine pu_ 8 112 HT_ ?_;refine pu_ 10 114 HT_ ?_;refine ta_ 5 109 HT_ HW_ hHeld ?_;refine ta_ 9 113 HT_ HW_ hHeld ?_;refine hJ (i:=11) (N:=some 115) #[true,true,true,true,true,true,true,true,true,true,true,true,false,false] rfl rfl (dJ HT_.out (by kernel_rfl)) (by decide) (fun K hK=>?_);refine ia Tryz.func186 (by kernel_rfl) rfl #[.pointer (some ⟨gf,0,none⟩),.int .i64 (t:Int),.int .i64 (y:Int)] (by rfl) rfl rfl (by (try simp only [List.map_toArray,List.map_cons,List.map_nil]);first | done | rfl) ?_
   refine (km2).mono ?_;rintro e0 w8 ⟨rfl,hd_w8⟩;have HB8:=Mw (HB7d.out.trans (hd_w8.below.mono HB7d.out.size));have HZ8:=Mw (show ag w8 gs ((dF m p b locs om_ i).set i t) from Blk.below (show ag w7.drew gs ((dF m p b locs om_ i).set i t) from HZ7.out) hd_w8.below (Blk.lt HZ7.out));have d8:=(HE.out.step HB8.out).cell;have zz1:w8.cell? ⟨gs,i,none⟩=some (.int .i64 (t:Int)):=by
    have h:=HZ8.out.cell i (by rw [List.length_set,HZB.out];exact hlt)
    rw [yB _ _ _ (by rw [HZB.out];exact hlt)] at h
    exact h
   have zz2:w8.frozen? ⟨gs,i,none⟩=false:=Blk.frozen HZ8.out _;clear hd_w8 km2;refine⟨_,rfl,?_⟩;refine hK.out _ _ ⟨d8,zz1⟩ (fun hHeld=>?_);clear hK K;refine no_ ?_;refine pu_ 12 116 HT_ ?_;refine jj (i:=13) (N:=none) #[true,true,true,true,true,true,true,true,true,true,true,true,true,true] rfl rfl (dJ HT_.out (by kernel_rfl)) (by decide) (fun K hK=>?_);refine jl (w1:=?_) (by rfl) rfl ?_ ?_;rotate_left
   ·go_simp
    rfl
   refine hK.out _ _ ?_;clear hK K;refine jk (jm HT_.out (by kernel_rfl)) ?_;obtain⟨w9,hw9⟩:∃ w9,w9=w8.setCell ⟨gs,i,none⟩ (.int .i64 (t2:Int)):=⟨_,rfl⟩;rw [<- hw9];have HB9:=Mw (show Below w.heap.size w w9 by rw [hw9];exact HB8.out.trans ((af.set w8 gs i _).below HGS.out))
   have HZ9:=Mw (show ag w9 gs (dF m p b locs om_ (i+1)) by rw [hw9,<- HF.out];exact ag.set HZ8.out i t2)
   clear hw9 hHeld HT_ HW_ z1 z2 zz1 zz2 e1 e2 d7
   go_wp2_with fail
   go_roundw
   case rel=>exact⟨i+1,by go_num,by omega,HB9,HZ9⟩
   case measure=>simp [intOf]<;>omega
end Go.Proofs.YtgccjgpdjkhpdaaGreat.B
