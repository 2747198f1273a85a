import Derived.Laws.EntriesVeiled
import Derived.Test.YtgccjgpdjkhpdaaGreatVCrop6
/-! Own texts of this claim, part 10. -/
namespace Go.Proofs.YtgccjgpdjkhpdaaGreat.B
open Go.RowKit Go.Proofs.YtgccjgpdjkhpdaaGreatW.PrintWords Go.Proofs.YtgccjgpdjkhpdaaGreatW.PrintLast Go.Proofs.YtgccjgpdjkhpdaaGreatW.PrintMore
set_option linter.unusedVariables false
set_option linter.unusedSimpArgs false
theorem held {T G:Prop}(r:T->G)(h:T):G:=r h
theorem VerAt.upd_any {w w':World}{b pv:Nat}{n:Int}{v:VerRow}{t:TypeId}{cs:Array Value}(h:VerAt w pv n v)(hu:Upd w w' b)(hb:Blk w b t cs)(h1:154≠t)(h2:3≠t)(h3:224≠t)(h4:221≠t):VerAt w' pv n v:=by
 obtain⟨gc,ge,g,k1,k2,k3,k4⟩:=h
 exact⟨gc,ge,g,hu.blk k1 (blk_ne k1 hb h1),hu.blk k2 (blk_ne k2 hb h2),hu.blk k3 (blk_ne k3 hb h3),fun l hl=>hu.blk (k4 l hl) (blk_ne (k4 l hl) hb h4)⟩
theorem Grid.words {w:World}{g b wd ht:Nat}{f:Nat->Nat->Bool}(G:Grid w g b wd ht f):∃ cs,Blk w b 214 cs:=by
 obtain⟨xs,h1,h2,h3⟩:=G
 exact⟨_,h2⟩
theorem Parser.upd {w w':World}{p g v b:Nat}{fm:Value}{cs:Array Value}(h:Parser w p g v fm)(hu:Upd w w' b)(hb:Blk w b 214 cs):Parser w' p g v fm:=by
 obtain⟨x1,h1,h2⟩:=h
 refine⟨x1,hu.blk h1 (blk_ne h1 hb (by decide)),?_⟩
 rcases h2 with h | ⟨pv,h,hV⟩
 ·exact .inl h
 ·exact .inr ⟨pv,h,hV.upd_any hu hb (by decide) (by decide) (by decide) (by decide)⟩
theorem Parser.below {w w':World}{p g v B:Nat}{fm:Value}(h:Parser w p g v fm)(hb:Below B w w')(hB:w.heap.size<=B):Parser w' p g v fm:=by
 obtain⟨x1,h1,h2⟩:=h
 refine⟨x1,h1.below hb (by have:=h1.lt;omega),?_⟩
 rcases h2 with h | ⟨pv,h,hV⟩
 ·exact .inl h
 ·exact .inr ⟨pv,h,hV.below hb hB⟩
def wayBits (v m:Nat)(f:Nat->Nat->Bool):List Bool:=bitsAt (fun x y=>f x y != maskB m x y) (way (17+4*v) (fpB v (ctrs v)))
def wordsOf (v m:Nat)(f:Nat->Nat->Bool):List Nat:=(List.range (roomN v/8)).map (byteAt (wayBits v m f))
def CodeWords (w:World)(p g b v q d:Nat)(f:Nat->Nat->Bool)(e:Ending)(w':World):Prop:=∃ gr,e=.returned (.tuple #[.slice (some ⟨gr,0,none⟩) (roomN v/8) (roomN v/8),.nilIface])/\w.heap.size<=gr/\UBlk w' gr (wordsOf v (d%8) f)/\
 Grid w' g b (17+4*v) (17+4*v) (fun x y=>f x y != maskB (d%8) x y)/\Upd2 w w' p b
set_option maxHeartbeats 8000000 in
theorem readCodewords (w:World)(p g b v q d:Nat)(f:Nat->Nat->Bool)(hP:Parser w p g v (.pointer (some ⟨q,0,none⟩)))(hF:FmtAt w q d)(G:Grid w g b (17+4*v) (17+4*v) f)(hv:1<=v/\v<=40)(hok:VerOK f v)(hgp:g≠p)(hbp:b≠p) :
  Calls Tryz.prog 45 #[.pointer (some ⟨p,0,none⟩)] w (CodeWords w p g b v q d f):=by
 obtain⟨hT,hR⟩:=tot_row v hv
 obtain⟨n,hn⟩:∃ n,17+4*v=n:=⟨_,rfl⟩
 obtain⟨T,hTd⟩:∃ T,roomN v/8=T:=⟨_,rfl⟩
 rw [hTd] at hT
 have hTl:T<=5000:=by omega
 have HG:=Aside0.mk G
 have HP:=Aside0.mk hP
 have HF:=Aside0.mk hF
 have HV:=Aside0.mk hv
 have HOK:=Aside0.mk hok
 have HT:=Aside0.mk hT
 have HTD:=Aside0.mk hTd
 have HN:=Aside0.mk hn
 have HR:=Aside0.mk hR
 have hn1:21<=n:=by omega
 have hn2:n<=177:=by omega
 have hmul:n*1=n:=Nat.mul_one n
 clear G hP hF hok hT hTd hn hR hv hmul
 go_enter Tryz.func45,Tryz.ntmps45
 go_wp2_with fail
 refine (readFormat_again w p g v q d HP.out HF.out).mono ?_
 rintro e w1 ⟨q1,rfl,hF1,hP1,hu1⟩
 have HF1:=Aside0.mk hF1
 have HP1:=Aside0.mk hP1
 have HU1:=Aside0.mk hu1
 have HG1:=Aside0.mk (hu1.grid HG.out hgp hbp)
 clear hF1 hP1 hu1
 go_wp2_with fail
 refine (readVersion w1 p g b v (.pointer (some ⟨q1,0,none⟩)) f HP1.out HG1.out HV.out HOK.out).mono ?_
 rintro e w2 ⟨pv,rfl,hV2,hP2,hu2⟩
 have HV2:=Aside0.mk hV2
 have HP2:=Aside0.mk hP2
 have HU2:=Aside0.mk (HU1.out.trans hu2)
 have HG2:=Aside0.mk (hu2.grid HG1.out hgp hbp)
 have HF2:=Aside0.mk (show FmtAt w2 q1 d by obtain⟨x1,hb1,_⟩:=HP1.out;exact hu2.blk HF1.out (blk_ne HF1.out hb1 (by decide)))
 clear hV2 hP2 hu2
 go_wp2_with fail
 refine (maskValues w2).mono ?_
 rintro e w3 ⟨rfl,hw3⟩
 have hb3:Below w2.heap.size w2 w3:=by rw [hw3];exact below_alloc (Below.refl _ _) _
 have HM3:=Aside0.mk (show Blk w3 w2.heap.size 159 maskCells by rw [hw3];exact Blk.new _ _ _)
 have HB3:=Aside0.mk hb3
 clear hw3 hb3
 go_wp2_with fail
 have hF3:FmtAt w3 q1 d:=HF2.out.below HB3.out (Blk.lt HF2.out)
 have km:=fmtMask w3 q1 d hF3
 obtain⟨mk,hmk⟩:∃ mk,d%8=mk:=⟨_,rfl⟩
 rw [hmk] at km
 have hmk8:mk<8:=by omega
 have HMK:=Aside0.mk hmk
 have HF3:=Aside0.mk hF3
 clear hF3 hmk
 refine km.mono ?_
 rintro e w' ⟨rfl,rfl⟩
 clear km
 have cm:w3.cell? ⟨w2.heap.size,mk,none⟩=some (maskV mk):=by
  rw [HM3.out.cell]
  match mk,hmk8 with
  | 0,_=>rfl
  | 1,_=>rfl
  | 2,_=>rfl
  | 3,_=>rfl
  | 4,_=>rfl
  | 5,_=>rfl
  | 6,_=>rfl
  | 7,_=>rfl
 obtain⟨F,hF⟩:∃ F,132+mk=F:=⟨_,rfl⟩
 unfold maskV at cm
 rw [hF] at cm
 have hun:=fun (W:World) (GG:Grid W g b n n f)=>unmask W mk g b n f hmk8 GG (by omega)
 unfold maskV at hun
 rw [hF] at hun
 have HUN:=Aside0.mk hun
 have HG3:=Aside0.mk (show Grid w3 g b n n f by have:=HG2.out.below HB3.out HG2.out.lt.1 HG2.out.lt.2;rw [HN.out] at this;exact this)
 have HP3:=Aside0.mk (HP2.out.below HB3.out (Nat.le_refl _))
 have HV3:=Aside0.mk (HV2.out.below HB3.out (Nat.le_refl _))
 clear hF hun
 have cp:∀ o,(w3.alloc o).cell? ⟨p,0,none⟩=some (.pointer (some ⟨g,0,none⟩)):=fun o=>by
  obtain⟨x1,hb1,_⟩:=HP3.out
  exact (hb1.alloc o).cell 0
 go_wp2_with fail
 obtain⟨w4,hw4⟩:∃ w4,w4=w3.alloc (.cells #[.func (.func F) #[] #[]] 159):=⟨_,rfl⟩
 rw [<- hw4]
 obtain⟨B7,hB7⟩:∃ B7,B7=w3.heap.size:=⟨_,rfl⟩
 rw [<- hB7]
 have hb4:Below w3.heap.size w3 w4:=by rw [hw4];exact below_alloc (Below.refl _ _) _
 have HB4:=Aside0.mk hb4
 have HG4:=Aside0.mk (HG3.out.below hb4 HG3.out.lt.1 HG3.out.lt.2)
 have HP4:=Aside0.mk (HP3.out.below hb4 (Nat.le_refl _))
 have HV4:=Aside0.mk (HV3.out.below hb4 (Nat.le_refl _))
 have H7:=Aside0.mk (show Blk w4 B7 159 #[.func (.func F) #[] #[]] by rw [hw4,hB7];exact Blk.new _ _ _)
 have c7:w4.cell? ⟨B7,0,none⟩=some (.func (.func F) #[] #[]):=H7.out.cell 0
 have cp4:w4.cell? ⟨p,0,none⟩=some (.pointer (some ⟨g,0,none⟩)):=by
  obtain⟨x1,hb1,_⟩:=HP4.out
  exact hb1.cell 0
 have HBB7:=Aside0.mk hB7
 clear cp hw4 hB7 hb4 cm
 refine (gridHeight w4 g b n n f HG4.out).mono ?_
 rintro e w' ⟨rfl,rfl⟩
 go_wp2_with fail
 have HGD:=Aside0.mk (show Grid w4.drew g b n n f from HG4.out.below (below_drew1 (Below.refl _ w4)) HG4.out.lt.1 HG4.out.lt.2)
 apply held
 case r=>
  intro REST
  go_region_with (go_at_call 91;refine (HUN.out w4.drew HGD.out).mono ?_;rintro e w5 ⟨rfl,hG5,hu5⟩)
  all_goals (revert hu5 hG5;revert w5;exact REST)
 intro w5 hG5 hu5
 have HU5:=Aside0.mk (show Upd w4 w5 b from ⟨hu5.os,hu5.tape,hu5.output,hu5.size,hu5.block⟩)
 have HG5:=Aside0.mk hG5
 obtain⟨wb,hwb⟩:=HG4.out.words
 have HP5:=Aside0.mk (HP4.out.upd HU5.out hwb)
 have HV5:=Aside0.mk (HV4.out.upd_any HU5.out hwb (by decide) (by decide) (by decide) (by decide))
 clear hG5 hu5 hwb c7 cp4
 go_wp2_with fail
 refine (funcPattern w5 pv v HV.out HV5.out).mono ?_
 rintro e w6 ⟨gf,bf,rfl,hbf,hgf,hGf,hb6⟩
 rw [HN.out] at hGf
 have HGF:=Aside0.mk hGf
 have HB6:=Aside0.mk hb6
 have HG6:=Aside0.mk (HG5.out.below hb6 HG5.out.lt.1 HG5.out.lt.2)
 have HP6:=Aside0.mk (HP5.out.below hb6 (Nat.le_refl _))
 have HV6:=Aside0.mk (HV5.out.below hb6 (Nat.le_refl _))
 clear hGf hb6
 go_wp2_with fail
 refine (verTotal w6 pv v T _ HV6.out HT.out).mono ?_
 rintro e w' ⟨rfl,rfl⟩
 have mk8:=make_u8 T (by omega)
 go_wp2_with fail
 clear mk8
 obtain⟨gr,hgr⟩:∃ gr,gr=w6.heap.size:=⟨_,rfl⟩
 rw [<- hgr]
 obtain⟨w7,hw7⟩:∃ w7,w7=w6.alloc (.cells (nums .u8 (ints (List.replicate T 0))).toArray 5):=⟨_,rfl⟩
 rw [<- hw7]
 have hb7:Below gr w6 w7:=by rw [hw7,hgr];exact below_alloc (Below.refl _ _) _
 have HB7:=Aside0.mk hb7
 have HR7:=Aside0.mk (show UBlk w7 gr (List.replicate T 0) by rw [hw7,hgr];exact Blk.new _ _ _)
 have l1:=HGF.out.lt
 have l2:=HG6.out.lt
 have l3:p<w6.heap.size:=by obtain⟨x1,hb1,_⟩:=HP6.out;exact hb1.lt
 have HGF7:=Aside0.mk (HGF.out.below hb7 (by omega) (by omega))
 have HG7:=Aside0.mk (HG6.out.below hb7 (by omega) (by omega))
 have HP7:=Aside0.mk (HP6.out.below hb7 (by omega))
 have HV7:=Aside0.mk (HV6.out.below hb7 (by omega))
 have n1:gf≠gr:=by omega
 have n2:bf≠gr:=by omega
 have n3:g≠gr:=by omega
 have n4:b≠gr:=by omega
 have n5:p≠gr:=by omega
 obtain⟨fp,hfp⟩:∃ fp,fpB v (ctrs v)=fp:=⟨_,rfl⟩
 obtain⟨bt,hbt⟩:∃ bt:Nat->Nat->Bool,(fun x y=>f x y != maskB mk x y)=bt:=⟨_,rfl⟩
 rw [hfp] at HGF7
 rw [hbt] at HG7
 obtain⟨ALL,hall⟩:∃ ALL,bitsAt bt (way n fp)=ALL:=⟨_,rfl⟩
 have hlenA:ALL.length=roomN v:=by
  rw [<- hall,bitsAt_len,<- hfp,<- HN.out]
  exact way_len v HV.out
 obtain⟨R,hRR⟩:∃ R,roomN v=R:=⟨_,rfl⟩
 rw [hRR] at hlenA
 have hRT:R/8=T:=by rw [<- hRR];exact HTD.out
 have hRl:R<=40000:=by rw [<- hRR];exact HR.out
 have HALL:=Aside0.mk hall
 have HLEN:=Aside0.mk hlenA
 have HFP:=Aside0.mk hfp
 have HBT:=Aside0.mk hbt
 have HRT:=Aside0.mk hRT
 have HRR:=Aside0.mk hRR
 have HGR:=Aside0.mk hgr
 have HHB:=Aside0.mk (And.intro hbf hgf)
 clear hw7 hb7 l1 l2 l3 hall hlenA hfp hbt hRT hRR hgr hbf hgf
 go_loopw [10,12,13,14,15] (fun vu vo vc vb vj wr=>∃ (L:List Bool) (o c m:Nat) (j:Int) (k:Nat) (up:Bool),vu=.bool up/\vo=.int .i64 (o:Int)/\vc=.int .i64 (c:Int)/\vb=.int .i64 (m:Int)/\vj=.int .i64 j/\-1<=j/\j<n/\j.toNat<=k/\o<=5000/\c<=127/\m<=7/\
  Aside0 (o=L.length/8/\c=accB L/\m=L.length%8)/\Aside0 (L++bitsAt bt (wayF n fp k j.toNat up)=ALL)/\Aside0 (UBlk wr gr (bytesTo T L))/\Aside0 (Turn w7 wr gr)) (fun _ _ _ _ vj _=>(intOf vj+2).toNat)
 case atStart=>exact⟨[],0,0,0,(n:Int)-1,n,true,rfl,rfl,rfl,rfl,rfl,by omega,by omega,by omega,by omega,by omega,by omega,⟨⟨rfl,rfl,rfl⟩⟩,⟨by rw [<- HALL.out,show ((n:Int)-1).toNat=n-1 by omega];rfl⟩,⟨by have:=HR7.out;unfold bytesTo;simpa using this⟩,⟨Turn.refl _ _⟩⟩
 case round=>
  obtain⟨L,o,c,m,j,k,up,rfl,rfl,rfl,rfl,rfl,hj1,hj2,hjk,ho,hc,hm,HS,HW,HU,HTN⟩:=hrel
  by_cases hj0:0<j
  ·obtain⟨right,rfl⟩:∃ right:Nat,j=(right:Int):=⟨j.toNat,by omega⟩
   rw [Int.toNat_natCast] at hjk HW
   have hr1:1<=right:=by omega
   obtain⟨rt,hrt⟩:∃ rt,fixR right=rt:=⟨_,rfl⟩
   have hrt1:1<=rt/\rt<=right:=by rw [<- hrt];unfold fixR;split<;>omega
   obtain⟨hrt1,hrt2⟩:=hrt1
   obtain⟨k',rfl⟩:∃ k',k=k'+1:=⟨k-1,by omega⟩
   have hway:L++(bitsAt bt (colPair n fp rt up n)++bitsAt bt (wayF n fp k' (rt-2) (!up)))=ALL:=by
    have h:=HW.out
    rw [wayF,if_neg (by omega),hrt,bitsAt_append] at h
    exact h
   have hfit:L.length+(colPair n fp rt up n).length<=R:=by
    have h:=congrArg List.length hway
    rw [List.length_append,List.length_append,HLEN.out,bitsAt_len] at h
    omega
   have HWAY:=Aside0.mk hway
   have HFIT:=Aside0.mk hfit
   have HRTT:=Aside0.mk hrt
   have h56:right=6->rt=5:=by intro h;rw [<- hrt,h];rfl
   have h56':right≠6->rt=right:=by intro h;rw [<- hrt];unfold fixR;rw [if_neg h]
   have H56:=Aside0.mk (And.intro h56 h56')
   clear hway hfit hrt h56 h56'
   by_cases h6:right=6
   all_goals
    first
     | (subst h6;have e5:=H56.out.1 rfl;go_wp2_with fail;rw [show Value.int .i64 (5:Int)=Value.int .i64 (rt:Int) by rw [e5];rfl];clear e5)
     | (have e5:=H56.out.2 h6;subst e5;go_wp2_with fail)
    obtain⟨wo,rfl⟩:∃ wo:World,wo=wr:=⟨_,rfl⟩
    go_loopw [12,13,14,16] (fun vo vc vb vt wi=>∃ (L':List Bool) (o c m t:Nat),vo=.int .i64 (o:Int)/\vc=.int .i64 (c:Int)/\vb=.int .i64 (m:Int)/\vt=.int .i64 (t:Int)/\t<=n/\o<=5000/\c<=127/\m<=7/\
     Aside0 (o=L'.length/8/\c=accB L'/\m=L'.length%8)/\Aside0 (L'=L++bitsAt bt (colPair n fp rt up t))/\Aside0 (UBlk wi gr (bytesTo T L'))/\Aside0 (Turn w7 wi gr)) (fun _ _ _ vt _=>(n-intOf vt).toNat)
    case atStart=>exact⟨L,o,c,m,0,rfl,rfl,rfl,rfl,by omega,ho,hc,hm,HS,⟨by rw [colPair];unfold bitsAt;simp⟩,HU,HTN⟩
    case round=>
     obtain⟨L',o',c',m',t,rfl,rfl,rfl,rfl,ht,ho',hc',hm',HS',HL',HU',HTN'⟩:=hrel
     by_cases htn:t<n
     ·obtain⟨r,hr⟩:∃ r,rowAt n up t=r:=⟨_,rfl⟩
      have hrn:r<n:=by rw [<- hr];exact rowAt_lt n up t htn
      have HRW:=Aside0.mk hr
      have hup1:up=true->(n:Int)-1-(t:Int)=(r:Int):=by intro h;rw [<- hr,h];unfold rowAt;simp;omega
      have hup2:up=false->t=r:=by intro h;rw [<- hr,h];rfl
      have HUP:=Aside0.mk (And.intro hup1 hup2)
      have hfit2:L'.length+(pairAt fp rt r).length<=R:=by
       have e:=congrArg List.length HL'.out
       rw [List.length_append,bitsAt_len] at e
       have h1:=colPair_mono n fp rt up (t+1) (n-(t+1))
       rw [show t+1+(n-(t+1))=n by omega,colPair,List.length_append,hr] at h1
       have:=HFIT.out
       omega
      have HFIT2:=Aside0.mk hfit2
      clear hr hup1 hup2 hfit2
      cases up
      all_goals
       first
        | (have HE:=Aside0.mk (show (n:Int)-1-(t:Int)=(r:Int) from HUP.out.1 rfl))
        | (have HE:=Aside0.mk (show t=r from HUP.out.2 rfl))
       go_wp2_with fail
       rw [HE.out]
       obtain⟨w2o,rfl⟩:∃ w2o:World,w2o=wr:=⟨_,rfl⟩
       go_loopw [12,13,14,18] (fun vo vc vb vs wi=>∃ (L2:List Bool) (o c m s:Nat),vo=.int .i64 (o:Int)/\vc=.int .i64 (c:Int)/\vb=.int .i64 (m:Int)/\vs=.int .i64 (s:Int)/\s<=2/\o<=5000/\c<=127/\m<=7/\
        Aside0 (o=L2.length/8/\c=accB L2/\m=L2.length%8)/\Aside0 (L2=L'++bitsAt bt (pairTo fp rt r s))/\Aside0 (UBlk wi gr (bytesTo T L2))/\Aside0 (Turn w7 wi gr)) (fun _ _ _ vs _=>(2-intOf vs).toNat)
       case atStart=>exact⟨L',o',c',m',0,rfl,rfl,rfl,rfl,by omega,ho',hc',hm',HS',⟨by unfold pairTo bitsAt;simp⟩,HU',HTN'⟩
       case round=>
        obtain⟨L2,o2,c2,m2,s,rfl,rfl,rfl,rfl,hs,ho2,hc2,hm2,HS2,HL2,HU2b,HTN2⟩:=hrel
        by_cases hs2:s<2
        ·obtain⟨x,hx⟩:∃ x,rt-s=x:=⟨_,rfl⟩
         have hxi:(rt:Int)-(s:Int)=(x:Int):=by omega
         have hxn:x<n:=by omega
         have kf:=gridGet wr gf bf n n fp x r (HGF7.out.keep (HTN2.out.block gf n1) (HTN2.out.block bf n2)) hxn hrn (by omega) (by omega)
         have km:=gridGet wr g b n n bt x r (HG7.out.keep (HTN2.out.block g n3) (HTN2.out.block b n4)) hxn hrn (by omega) (by omega)
         have cp:wr.cell? ⟨p,0,none⟩=some (.pointer (some ⟨g,0,none⟩)):=by
          obtain⟨x1,hb1,_⟩:=HP7.out
          exact (HTN2.out.blk hb1 n5).cell 0
         have hstep:=pairTo_step fp rt r s hs2
         rw [hx] at hstep
         have hle:=pairTo_le fp rt r (s+1) (by omega)
         have HXI:=Aside0.mk hx
         clear hx
         cases hfx:fp x r with
         | true=>
          rw [hfx] at kf hstep
          have HST:=Aside0.mk hstep
          clear hfx hstep hle km
          go_wp2_with (go_at_call_of 94 (Value.pointer (some ⟨gf,0,none⟩));refine kf.mono ?_;rintro e w' ⟨rfl,rfl⟩)
          go_roundw
          case rel=>exact⟨L2,o2,c2,m2,s+1,rfl,rfl,rfl,by go_num,by omega,ho2,hc2,hm2,HS2,⟨by rw [HST.out];simp only [if_true,List.append_nil];exact HL2.out⟩,HU2b,HTN2⟩
          case measure=>simp [intOf];omega
         | false=>
          rw [hfx] at kf hstep
          have hnew:L2++[bt x r]=L'++bitsAt bt (pairTo fp rt r (s+1)):=by
           rw [hstep,bitsAt_append,<- List.append_assoc,<- HL2.out]
           rfl
          have hroom:L2.length+1<=R:=by
           have e:=congrArg List.length hnew
           rw [List.length_append,List.length_append,bitsAt_len] at e
           have:=HFIT2.out
           simp at e
           omega
          have HNEW:=Aside0.mk hnew
          have HROOM:=Aside0.mk hroom
          obtain⟨e1,e2,e3⟩:=HS2.out
          obtain⟨z,hz⟩:∃ z,2*c2+(bt x r).toNat=z:=⟨_,rfl⟩
          have hzl:z<=255:=by have:(bt x r).toNat<=1:=Bool.toNat_le _;omega
          have hzt:bt x r=true->Go.bits .or .i64 ((c2:Int)*2) 1=(z:Int):=by intro h;rw [or_one_i c2 (by omega),<- hz,h];rfl
          have hzf:bt x r=false->(c2:Int)*2=(z:Int):=by intro h;rw [<- hz,h];simp;omega
          have HZ:=Aside0.mk hz
          clear hfx hstep hle hnew hroom hz
          by_cases hm7:m2=7
          ·subst hm7
           have hacc:=acc_full L2 (bt x r) (by omega)
           have hset:=bytesTo_full T L2 (bt x r) (by omega) (by have:=HROOM.out;have:=HRT.out;omega)
           have hbl:(bytesTo T L2).length=T:=bytesTo_len T L2 (by have:=HROOM.out;have:=HRT.out;omega)
           have hoT:o2<T:=by have:=HROOM.out;have:=HRT.out;omega
           have k1:=HU2b.out.cell o2 (by rw [hbl];exact hoT)
           have k2:wr.frozen? ⟨gr,o2,none⟩=false:=Blk.frozen HU2b.out o2
           obtain⟨old,hold⟩:∃ old,(bytesTo T L2).getD o2 0=old:=⟨_,rfl⟩
           rw [hold] at k1
           have HSET:=Aside0.mk (show UBlk (wr.setCell ⟨gr,o2,none⟩ (.int .u8 (z:Int))) gr (bytesTo T (L2++[bt x r])) by
            have h:=HU2b.out.set o2 z
            rw [<- hset,<- e1,<- e2,HZ.out]
            exact h)
           have HS3:=Aside0.mk (show o2+1=(L2++[bt x r]).length/8/\0=accB (L2++[bt x r])/\0=(L2++[bt x r]).length%8 by
            have hl:(L2++[bt x r]).length=L2.length+1:=by simp
            exact⟨by omega,(acc_zero _ (by omega)).symm,by omega⟩)
           have HT3:=Aside0.mk (HTN2.out.trans (Turn.set wr gr o2 (.int .u8 (z:Int))))
           clear e1 e2 e3 hacc hset hbl hold
           cases hbb:bt x r
           all_goals
            rw [hbb] at km
            first | (have hq:=hzt hbb) | (have hq:=hzf hbb)
            have HBB:=Aside0.mk hbb
            clear hzt hzf hbb
            go_wp2_with (first | (go_at_call_of 94 (Value.pointer (some ⟨gf,0,none⟩));refine kf.mono ?_;rintro e w' ⟨rfl,rfl⟩) | (go_at_call_of 94 (Value.pointer (some ⟨g,0,none⟩));refine km.mono ?_;rintro e w' ⟨rfl,rfl⟩))
            go_roundw
            case rel=>exact⟨L2++[bt x r],o2+1,0,0,s+1,by go_num,rfl,rfl,by go_num,by omega,by omega,by omega,by omega,HS3,HNEW,HSET,HT3⟩
            case measure=>simp [intOf];omega
          ·obtain⟨a1,a2,a3⟩:=acc_more L2 (bt x r) (by omega)
           have HS3:=Aside0.mk (show o2=(L2++[bt x r]).length/8/\z=accB (L2++[bt x r])/\m2+1=(L2++[bt x r]).length%8 from ⟨by rw [a2];exact e1,by rw [a1,<- e2];exact HZ.out.symm,by rw [a3,<- e3]⟩)
           have HSET:=Aside0.mk (show UBlk wr gr (bytesTo T (L2++[bt x r])) by rw [bytesTo_more T L2 (bt x r) (by omega)];exact HU2b.out)
           have hz7:z<=127:=by have:=accB_lt7 (L2++[bt x r]);have:=HS3.out.2.1;omega
           have hmb:m2+1<=7:=by omega
           clear e1 e2 e3 a1 a2 a3
           cases hbb:bt x r
           all_goals
            rw [hbb] at km
            first | (have hq:=hzt hbb) | (have hq:=hzf hbb)
            have HBB:=Aside0.mk hbb
            clear hzt hzf hbb
            go_wp2_with (first | (go_at_call_of 94 (Value.pointer (some ⟨gf,0,none⟩));refine kf.mono ?_;rintro e w' ⟨rfl,rfl⟩) | (go_at_call_of 94 (Value.pointer (some ⟨g,0,none⟩));refine km.mono ?_;rintro e w' ⟨rfl,rfl⟩))
            go_roundw
            case rel=>exact⟨L2++[bt x r],o2,z,m2+1,s+1,rfl,by first | rfl | go_num,by go_num,by go_num,by omega,ho2,hz7,hmb,HS3,HNEW,HSET,HTN2⟩
            case measure=>simp [intOf];omega
        ·have:s=2:=by omega
         subst this
         set_option maxRecDepth 8000 in go_wp2_with fail
         go_roundw
         case rel=>exact⟨L2,o2,c2,m2,t+1,rfl,rfl,rfl,by first | go_num | (rw [HE.out];go_num),by omega,ho2,hc2,hm2,HS2,⟨by rw [HL2.out,HL'.out,colPair,bitsAt_append,pairTo_two,HRW.out,List.append_assoc]⟩,HU2b,HTN2⟩
         case measure=>first | (simp [intOf];omega) | (have eUP:=HE.out;simp [intOf];omega)
     ·have:n=t:=by omega
      subst this
      set_option maxRecDepth 8000 in go_wp2_with fail
      go_roundw
      case rel=>exact⟨L',o',c',m',(rt:Int)-2,k',!up,by rfl,rfl,rfl,rfl,by go_num,by omega,by omega,by omega,ho',hc',hm',HS',⟨by rw [HL'.out,List.append_assoc,show ((rt:Int)-2).toNat=rt-2 by omega];exact HWAY.out⟩,HU',HTN'⟩
      case measure=>simp only [intOf];omega
  ·have hL:L=ALL:=by
    have h:=HW.out
    rw [show j.toNat=0 by omega] at h
    have hw0:wayF n fp k 0 up=[]:=by cases k with | zero=>rfl | succ k=>rw [wayF,if_pos rfl]
    rw [hw0] at h
    unfold bitsAt at h
    simpa using h
   subst hL
   have hoT:o=T:=by have:=HS.out.1;have:=HLEN.out;have:=HRT.out;omega
   subst hoT
   have kt:=verTotal wr pv v o _ (HV7.out.upd_any (Upd.of_turn HTN.out) HR7.out (by decide) (by decide) (by decide) (by decide)) HT.out
   go_wp2_with (go_at_call 93;refine kt.mono ?_;rintro e w' ⟨rfl,rfl⟩)
   go_ret2
   have hres:bytesTo o L=wordsOf v mk f:=by
    unfold bytesTo wordsOf wayBits
    rw [HBT.out,HN.out,HFP.out,HALL.out,HTD.out,show L.length/8=o by have:=HS.out.1;omega,Nat.sub_self,List.replicate_zero,List.append_nil]
   have hGend:Grid wr g b n n bt:=HG7.out.keep (HTN.out.block g n3) (HTN.out.block b n4)
   have hu:Upd2 w wr p b:=by
    have a1:Upd2 w w2 p b:=Upd2.of HU2.out b
    have a3:Upd2 w2 w3 p b:=Upd2.of (Upd.of_below HB3.out p) b
    have a4:Upd2 w3 w4 p b:=Upd2.of (Upd.of_below HB4.out p) b
    have a5:Upd2 w4 w5 p b:=Upd2.of' HU5.out p
    have a6:Upd2 w5 w6 p b:=Upd2.of (Upd.of_below HB6.out p) b
    have a7:Upd2 w6 w7 p b:=Upd2.of (Upd.of_below (by have:=HB7.out;rw [HGR.out] at this;exact this) p) b
    have a6':=((((a1.trans a3).trans a4).trans a5).trans a6).trans a7
    refine⟨HTN.out.os.trans a6'.os,HTN.out.tape.trans a6'.tape,HTN.out.output.trans a6'.output,by rw [HTN.out.size];exact a6'.size,fun i hi h1 h2=>?_⟩
    have hs:w.heap.size<=gr:=by rw [HGR.out];exact (((((a1.trans a3).trans a4).trans a5).trans a6)).size
    rw [HTN.out.block i (by omega)]
    exact a6'.block i hi h1 h2
   refine⟨gr,by first | (rw [HTD.out];done) | (rw [HTD.out];rfl),?_,?_,?_,hu⟩
   ·rw [HGR.out]
    have a1:Upd2 w w2 p b:=Upd2.of HU2.out b
    have a3:Upd2 w2 w3 p b:=Upd2.of (Upd.of_below HB3.out p) b
    have a4:Upd2 w3 w4 p b:=Upd2.of (Upd.of_below HB4.out p) b
    have a5:Upd2 w4 w5 p b:=Upd2.of' HU5.out p
    have a6:Upd2 w5 w6 p b:=Upd2.of (Upd.of_below HB6.out p) b
    exact ((((a1.trans a3).trans a4).trans a5).trans a6).size
   ·rw [HMK.out,<- hres]
    exact HU.out
   ·rw [HN.out,HMK.out,HBT.out]
    exact hGend
def grp (c d c2:Nat):List (Int×Int):=if c2=0 then [((c:Int),(d:Int))] else [((c:Int),(d:Int)),((c2:Int),((d+1:Nat):Int))]
def grpN (c2:Nat):Nat:=if c2=0 then 1 else 2
def grpC (c c2 i:Nat):Nat:=if i=0 then c else c2
def grpS (c c2 i:Nat):Nat:=if i=0 then 0 else if i=1 then c else c+c2
theorem grp_len (c d c2:Nat):(grp c d c2).length=grpN c2:=by unfold grp grpN;split<;>rfl
theorem grp_at (c d c2 i:Nat)(hi:i<grpN c2):(grp c d c2).getD i (0,0)=((grpC c c2 i:Int),((d+i:Nat):Int)):=by
 unfold grpN at hi
 unfold grp
 split at hi
 ·rename_i h
  rw [if_pos h]
  match i,hi with
  | 0,_=>rfl
 ·rename_i h
  rw [if_neg h]
  match i,hi with
  | 0,_=>rfl
  | 1,_=>rfl
theorem grpS_succ (c c2 i:Nat)(hi:i<grpN c2):grpS c c2 (i+1)=grpS c c2 i+grpC c c2 i:=by
 unfold grpN at hi
 unfold grpS grpC
 split at hi
 ·match i,hi with
  | 0,_=>simp
 ·match i,hi with
  | 0,_=>simp
  | 1,_=>simp
theorem grpS_end (c c2:Nat):grpS c c2 (grpN c2)=c+c2:=by
 unfold grpN grpS
 split
 ·rename_i h;simp [h]
 ·simp
theorem grpS_le (c c2 i:Nat):grpS c c2 i<=c+c2:=by unfold grpS;split;omega;split<;>omega
theorem grp_dl (c d c2 i t:Nat)(hi:i<grpN c2)(ht:t<grpC c c2 i):dl c d (grpS c c2 i+t)=d+i:=by
 unfold grpN at hi
 unfold grpC at ht
 unfold dl grpS
 split at hi
 ·match i,hi with
  | 0,_=>simp at ht ⊢;omega
 ·match i,hi with
  | 0,_=>simp at ht ⊢;omega
  | 1,_=>simp
theorem Below.setc {w0 w:World}{B:Nat}(h:Below B w0 w){g i:Nat}(hg:B<=g)(u:Value):Below B w0 (w.setCell ⟨g,i,none⟩ u) :=
 ⟨h.os,h.tape,h.output,by simpa using h.size,fun k hk=>(Below.heap_setCell w _ u k (by show k≠g;omega)).trans (h.block k hk)⟩
theorem Dbs.grow {w:World}{g B k n m di:Nat}{p q d:Nat->Nat}{cw:Nat->List Nat}(h:Dbs w g B k n p q d cw)(hk:k<n)(hB:B<=w.heap.size)(hd:d k=di)(hc:cw k=List.replicate m 0)(o o2:Obj) :
  Dbs (((((w.alloc o).alloc o2).alloc (.cells (nums .u8 (ints (List.replicate m 0))).toArray 5)).alloc (.cells #[.int .i64 (di:Int),.slice (some ⟨w.heap.size+1+1,0,none⟩) m m] 270)).setCell ⟨g,k,none⟩ (.pointer (some ⟨w.heap.size+1+1+1,0,none⟩)))
   g B (k+1) n (upd1 p k (w.heap.size+1+1+1)) (upd1 q k (w.heap.size+1+1)) d cw:=by
 have h2:Dbs ((w.alloc o).alloc o2) g B k n p q d cw:=h.below (below_alloc (below_alloc (Below.refl _ _) _) _) (Nat.le_refl _)
 have hs:((w.alloc o).alloc o2).heap.size=w.heap.size+1+1:=by simp
 have:=h2.add hk (by rw [hs];omega)
 rw [hs,hd,hc,List.length_replicate] at this
 exact this
theorem Dbs.facts {w:World}{g B n c d c2 e off j x:Nat}{p q:Nat->Nat}{ws:List Nat}(h:Dbs w g B n n p q (dl c d) (fill c d c2 e ws off))(hj:j<n)(hx:x<dl c d j+e) :
  w.cell? ⟨g,j,none⟩=some (.pointer (some ⟨p j,0,none⟩))/\w.cell? ⟨p j,1,none⟩=some (.slice (some ⟨q j,0,none⟩) (dl c d j+e) (dl c d j+e))/\(∃ old:Nat,w.cell? ⟨q j,x,none⟩=some (.int .u8 (old:Int)))/\w.frozen? ⟨q j,x,none⟩=false:=by
 refine⟨h.ptr hj hj,?_,⟨_,UBlk.cell (h.word j hj) x (by rw [fill_len];exact hx)⟩,Blk.frozen (h.word j hj) x⟩
 have:=(h.blk j hj).cell 1
 rw [fill_len] at this
 exact this
theorem Dbs.step {w:World}{g B n c d c2 e off j x v:Nat}{p q:Nat->Nat}{ws:List Nat}(h:Dbs w g B n n p q (dl c d) (fill c d c2 e ws off))(hn:c+c2=n)(hj:j<n)(hpos:posOf c d c2 j x=off)(hv:ws.getD off 0=v) :
  Dbs (w.drew.setCell ⟨q j,x,none⟩ (.int .u8 (v:Int))) g B n n p q (dl c d) (fill c d c2 e ws (off+1)):=by
 subst hn
 refine (h.below (below_drew1 (Below.refl w.heap.size w)) (Nat.le_refl _)).set hj ?_ fun i hi hij=>fill_other ws hj hi hpos hij
 rw [<- hv]
 exact fill_set ws hj hpos
theorem fill_full (c d c2 e:Nat)(ws:List Nat){w:World}{g B n:Nat}{p q:Nat->Nat}(hn:c+c2=n)(h:Dbs w g B n n p q (dl c d) (fill c d c2 e ws (d*n+c2+e*n))):Dbs w g B n n p q (dl c d) (blockWords c d c2 e ws):=by
 subst hn
 refine⟨h.row,fun i hi=>?_,fun i hi=>?_,h.fresh,h.inj⟩
 ·have:=h.blk i hi
  rw [fill_all ws hi] at this
  exact this
 ·have:=h.word i hi
  rw [fill_all ws hi] at this
  exact this
def Blocks (w:World)(c d c2 e:Nat)(ws:List Nat)(en:Ending)(w':World):Prop:=∃ g p q,en=.returned (.tuple #[.slice (some ⟨g,0,none⟩) (c+c2) (c+c2),.nilIface])/\w.heap.size<=g/\
 Dbs w' g w.heap.size (c+c2) (c+c2) p q (dl c d) (blockWords c d c2 e ws)/\Below w.heap.size w w'
set_option maxHeartbeats 8000000 in
set_option maxRecDepth 20000 in
theorem dataBlocks (w:World)(pv v l gw:Nat)(ws:List Nat)(hV:VerAt w pv (v:Int) (verRow v))(hv:1<=v/\v<=40)(hl:l<4)(hW:UBlk w gw ws)(hn:ws.length=roomN v/8) :
  Calls Tryz.prog 162 #[.slice (some ⟨gw,0,none⟩) (roomN v/8) (roomN v/8),.pointer (some ⟨pv,0,none⟩),.int .i64 (l:Int)] w (Blocks w (lvC v l) (lvD v l) (lvC2 v l) (lvE v l) ws):=by
 obtain⟨hT,hR⟩:=tot_row v hv
 have LY:=lay_at v l hv hl
 obtain⟨e,he⟩:∃ e,lvE v l=e:=⟨_,rfl⟩
 obtain⟨c,hc⟩:∃ c,lvC v l=c:=⟨_,rfl⟩
 obtain⟨d,hd⟩:∃ d,lvD v l=d:=⟨_,rfl⟩
 obtain⟨c2,hc2⟩:∃ c2,lvC2 v l=c2:=⟨_,rfl⟩
 rw [he,hc,hd,hc2] at LY ⊢
 obtain⟨T,hTd⟩:∃ T,roomN v/8=T:=⟨_,rfl⟩
 have hTl:T<=5000:=by omega
 obtain⟨lr,e1,e2,q1,q2,q3,q4,ltot⟩:=LY
 rw [hTd] at hT hn ltot ⊢
 have hlr:lvOf v l=((e:Int),grp c d c2):=lr
 have HV:=Aside0.mk hV
 have HW:=Aside0.mk hW
 have HN:=Aside0.mk hn
 have HT:=Aside0.mk hT
 have HTT:=Aside0.mk ltot
 have k93:=verTotal w pv v T _ hV hT
 have k170:=ecLevel w pv v l hV hv hl
 rw [hlr] at k170
 clear lr hlr he hc hd hc2 hTd hV hW hn ltot hT hR hv
 go_enter Tryz.func162,Tryz.ntmps162
 go_wp2_with (first | (go_at_call 93;refine k93.mono ?_;rintro e w' ⟨rfl,rfl⟩) | (go_at_call 170;refine k170.mono ?_;rintro e w' ⟨⟨ge,o,rfl,hL⟩,rfl⟩))
 clear k93 k170
 obtain⟨g,⟨es,hb1,hes1,hes2⟩,hb2⟩:=hL
 have cE:w.cell? ⟨ge,o,none⟩=some (.int .i64 (e:Int)):=(hb1.cell o).trans hes1
 have cL:w.cell? ⟨ge,o+1,none⟩=some (.slice (some ⟨g,0,none⟩) (grpN c2) (grpN c2)):=by rw [<- grp_len c d c2];exact (hb1.cell _).trans hes2
 have HES:=Aside0.mk (And.intro hb1 hes1)
 have HG:=Aside0.mk hb2
 clear hb1 hes1 hes2 hb2
 refine (ecbs_listO w ge o _ cL).mono ?_
 rintro e' w' ⟨rfl,rfl⟩
 clear cE cL
 obtain⟨m,hm⟩:∃ m,grpN c2=m:=⟨_,rfl⟩
 rw [hm]
 have hm2:1<=m/\m<=2:=by rw [<- hm];unfold grpN;split<;>omega
 obtain⟨hm1,hm2⟩:=hm2
 have HM:=Aside0.mk hm
 clear hm
 go_wp2
 go_loopw [9,45] (fun tv v wr=>∃ i t:Nat,i<=m/\v=.int .i64 (i:Int)/\tv=.int .i64 (t:Int)/\t<=100/\Aside0 (t=grpS c c2 i)/\Aside0 (Below w.heap.size w wr)) (fun _ v _=>(m-intOf v).toNat)
 case atStart=>exact⟨0,0,Nat.zero_le _,rfl,rfl,by omega,⟨rfl⟩,⟨Below.refl _ _⟩⟩
 case round=>
  obtain⟨i,t,hi,rfl,rfl,ht,HTS,HB⟩:=hrel
  by_cases hlt:i<m
  ·have hgr:Blk wr g 221 (ecbCells (grp c d c2)).toArray:=HG.out.below HB.out HG.out.lt
   have hat:=ecbCells_at (grp c d c2) i (by rw [grp_len,HM.out];exact hlt)
   rw [grp_at c d c2 i (by rw [HM.out];exact hlt)] at hat
   obtain⟨x,hx⟩:∃ x,grpC c c2 i=x:=⟨_,rfl⟩
   have hx1:x<=100:=by rw [<- hx];unfold grpC;split<;>omega
   have hsum:t+x=grpS c c2 (i+1):=by rw [grpS_succ c c2 i (by rw [HM.out];exact hlt),HTS.out,hx]
   have hs100:t+x<=100:=by rw [hsum];have:=grpS_le c c2 (i+1);omega
   rw [hx] at hat
   have d0:wr.cell? ⟨g,i*2,none⟩=some (.int .i64 (x:Int)):=(hgr.cell _).trans (by have:=hat.1;rw [Nat.mul_comm] at this;simpa using this)
   have d1:wr.cell? ⟨g,i*2+1,none⟩=some (.int .i64 ((d+i:Nat):Int)):=(hgr.cell _).trans (by have:=hat.2;rw [Nat.mul_comm] at this;simpa using this)
   have HSUM:=Aside0.mk hsum
   clear hx hat hgr hsum
   go_wp2_with (go_at_call 160;refine (ecb_count' _ (x:Int) ((d+i:Nat):Int)).mono ?_;rintro e w' ⟨rfl,rfl⟩)
   go_roundw
   case rel=>exact⟨i+1,t+x,by omega,by go_num,by go_num,by omega,HSUM,⟨by repeat (first | exact HB.out | apply below_alloc | apply pw_below_drewN | apply below_drew1)⟩⟩
   case measure=>simp [intOf];omega
  ·have:m=i:=by omega
   subst this
   rw [HM.out.symm] at HTS
   have mkb:=make_blocks t (by omega)
   go_wp2
   clear mkb
   rw [HM.out] at HTS
   obtain⟨n,hn⟩:∃ n,c+c2=n:=⟨_,rfl⟩
   have htn:n=t:=by rw [<- hn,<- grpS_end c c2,HM.out,HTS.out]
   subst htn
   obtain⟨w1,hw1⟩:∃ w1,w1=wr.alloc (.cells (ptrRow 0 n (fun _=>0)).toArray 257):=⟨_,rfl⟩
   rw [<- hw1]
   obtain⟨gR,hgR⟩:∃ gR,gR=wr.heap.size:=⟨_,rfl⟩
   rw [<- hgR]
   have hbl1:Below w.heap.size w w1:=by rw [hw1];exact below_alloc HB.out _
   have HRW:=Aside0.mk (show Blk w1 gR 257 (ptrRow 0 n (fun _=>0)).toArray by rw [hw1,hgR];exact Blk.new _ _ _)
   have HB1:=Aside0.mk hbl1
   have hgb:w.heap.size<=gR:=by rw [hgR];exact HB.out.size
   have HGB:=Aside0.mk hgb
   have HNN:=Aside0.mk hn
   have hn100:n<=100:=by omega
   have HD0:=Aside0.mk (show Dbs w1 gR w.heap.size 0 n (fun _=>0) (fun _=>0) (dl c d) (fill c d c2 e ws 0) from ⟨HRW.out,fun i hi=>absurd hi (by omega),fun i hi=>absurd hi (by omega),fun i hi=>absurd hi (by omega),fun i j hi=>absurd hi (by omega)⟩)
   clear hw1 hgR hbl1 HB HTS hi ht hlt hgb hn HRW
   go_loopw [14,58] (fun tv v wr=>∃ (i t:Nat) (p q:Nat->Nat),i<=m/\v=.int .i64 (i:Int)/\tv=.int .i64 (t:Int)/\t<=100/\Aside0 (t=grpS c c2 i)/\Aside0 (Below w.heap.size w wr)/\Aside0 (Dbs wr gR w.heap.size t n p q (dl c d) (fill c d c2 e ws 0))) (fun _ v _=>(m-intOf v).toNat)
   case atStart=>exact⟨0,0,_,_,Nat.zero_le _,rfl,rfl,by omega,⟨rfl⟩,HB1,HD0⟩
   case round=>
    obtain⟨i,t,p,q,hi,rfl,rfl,ht,HTS,HB,HD⟩:=hrel
    by_cases hlt:i<m
    ·have hgr:Blk wr g 221 (ecbCells (grp c d c2)).toArray:=HG.out.below HB.out HG.out.lt
     have hat:=ecbCells_at (grp c d c2) i (by rw [grp_len,HM.out];exact hlt)
     rw [grp_at c d c2 i (by rw [HM.out];exact hlt)] at hat
     obtain⟨x,hx⟩:∃ x,grpC c c2 i=x:=⟨_,rfl⟩
     have hx1:x<=100:=by rw [<- hx];unfold grpC;split<;>omega
     have hsum:t+x=grpS c c2 (i+1):=by rw [grpS_succ c c2 i (by rw [HM.out];exact hlt),HTS.out,hx]
     have hs100:t+x<=n:=by rw [hsum];have:=grpS_le c c2 (i+1);have:=HNN.out;omega
     rw [hx] at hat
     have d0:wr.cell? ⟨g,i*2,none⟩=some (.int .i64 (x:Int)):=(hgr.cell _).trans (by have:=hat.1;rw [Nat.mul_comm] at this;simpa using this)
     have d1:wr.cell? ⟨g,i*2+1,none⟩=some (.int .i64 ((d+i:Nat):Int)):=(hgr.cell _).trans (by have:=hat.2;rw [Nat.mul_comm] at this;simpa using this)
     obtain⟨di,hdi⟩:∃ di,d+i=di:=⟨_,rfl⟩
     rw [hdi] at d1
     have hdi1:di<=300:=by omega
     have hdl:∀ s,s<x->dl c d (t+s)=di:=fun s hs=>by rw [HTS.out,<- hdi];exact grp_dl c d c2 i s (by rw [HM.out];exact hlt) (by rw [hx];exact hs)
     have HDL:=Aside0.mk hdl
     have HSUM:=Aside0.mk hsum
     clear hx hat hgr hsum hdl hdi
     go_wp2
     obtain⟨w2,hw2⟩:∃ w2,w2=wr.alloc (.cells #[.int .i64 (x:Int),.int .i64 (di:Int)] 221):=⟨_,rfl⟩
     rw [<- hw2]
     obtain⟨gE,hgE⟩:∃ gE,gE=wr.heap.size:=⟨_,rfl⟩
     rw [<- hgE]
     have HB2:=Aside0.mk (show Below w.heap.size w w2 by rw [hw2];exact below_alloc HB.out _)
     have HE2:=Aside0.mk (show Blk w2 gE 221 #[.int .i64 (x:Int),.int .i64 (di:Int)] by rw [hw2,hgE];exact Blk.new _ _ _)
     have HD2:=Aside0.mk (show Dbs w2 gR w.heap.size t n p q (dl c d) (fill c d c2 e ws 0) by rw [hw2];exact HD.out.below (below_alloc (Below.refl _ _) _) (Nat.le_refl _))
     clear hw2 hgE d0 d1
     go_loopw [14,17] (fun tv v wr=>∃ (s:Nat) (p q:Nat->Nat),s<=x/\v=.int .i64 (s:Int)/\tv=.int .i64 ((t+s:Nat):Int)/\Aside0 (Below w.heap.size w wr)/\Aside0 (Blk wr gE 221 #[.int .i64 (x:Int),.int .i64 (di:Int)])/\Aside0 (Dbs wr gR w.heap.size (t+s) n p q (dl c d) (fill c d c2 e ws 0))) (fun _ v _=>(x-intOf v).toNat)
     case atStart=>exact⟨0,p,q,Nat.zero_le _,rfl,rfl,HB2,HE2,HD2⟩
     case round=>
      clear HB2 HE2 HD2 HD HB
      obtain⟨s,p,q,hs,rfl,rfl,HB,HE,HD⟩:=hrel
      have d0:wr.cell? ⟨gE,0,none⟩=some (.int .i64 (x:Int)):=HE.out.cell 0
      have d1:wr.cell? ⟨gE,1,none⟩=some (.int .i64 (di:Int)):=HE.out.cell 1
      have b0:∀ o,(wr.alloc o).cell? ⟨gE,0,none⟩=some (.int .i64 (x:Int)):=fun o=>(HE.out.alloc o).cell 0
      have b1:∀ o,(wr.alloc o).cell? ⟨gE,1,none⟩=some (.int .i64 (di:Int)):=fun o=>(HE.out.alloc o).cell 1
      by_cases hsx:s<x
      ·have mk8:∀ W,(Instr.makeSlice 26 (.int .i64 ((e:Int)+(di:Int))) (.int .i64 ((e:Int)+(di:Int)))).run Tryz.prog W=.ok (.slice (some ⟨W.heap.size,0,none⟩) (e+di) (e+di)) (W.alloc (.cells (nums .u8 (ints (List.replicate (e+di) 0))).toArray 5)):=fun W=>by
        have:=make_u8 (e+di) (by omega) W
        rw [show ((e+di:Nat):Int)=(e:Int)+(di:Int) by omega] at this
        exact this
       have hkn:t+s<n:=by omega
       have f0:∀ o o2 o3 o4,((((wr.alloc o).alloc o2).alloc o3).alloc o4).frozen? ⟨gR,t+s,none⟩=false:=fun o o2 o3 o4=>Blk.frozen ((((HD.out.row.alloc o).alloc o2).alloc o3).alloc o4) _
       have hold:(ptrRow (t+s) n p).toArray[t+s]? = some (.pointer none):=by simp [ptrRow,hkn,ptrAt]
       have f1:∀ o o2 o3 o4,((((wr.alloc o).alloc o2).alloc o3).alloc o4).cell? ⟨gR,t+s,none⟩=some (.pointer none):=fun o o2 o3 o4=>(Blk.cell ((((HD.out.row.alloc o).alloc o2).alloc o3).alloc o4) _).trans hold
       clear hold
       have hbE:Blk wr ge 224 es:=HES.out.1.below HB.out HES.out.1.lt
       go_wp2_with (first | (go_at_call 160;refine (ecb_count' _ (x:Int) (di:Int)).mono ?_;rintro e w' ⟨rfl,rfl⟩) | (go_at_call 161;refine (ecb_words' _ (x:Int) (di:Int)).mono ?_;rintro e w' ⟨rfl,rfl⟩) | (go_at_call 158;refine (ecbs_perO _ ge o (e:Int) (Eq.trans (Blk.cell (by repeat (first | exact hbE | apply Blk.alloc)) o) HES.out.2)).mono ?_;rintro e w' ⟨rfl,rfl⟩) | (go_at_call 171;refine (newDB _ (di:Int) _ _).mono ?_;rintro e w' ⟨rfl,rfl⟩))
       go_roundw
       have hgE:gE≠gR:=blk_ne HE.out HD.out.row (by decide)
       have hE4:∀ o o2 o3 o4 (u:Value),Blk (((((wr.alloc o).alloc o2).alloc o3).alloc o4).setCell ⟨gR,t+s,none⟩ u) gE 221 #[.int .i64 (x:Int),.int .i64 (di:Int)]:=fun o o2 o3 o4 u=>Blk.far (p:=⟨gR,t+s,none⟩) ((((HE.out.alloc o).alloc o2).alloc o3).alloc o4) hgE u
       have hB4:∀ o o2 o3 o4 (u:Value),Below w.heap.size w (((((wr.alloc o).alloc o2).alloc o3).alloc o4).setCell ⟨gR,t+s,none⟩ u):=fun o o2 o3 o4 u=>Below.setc (below_alloc (below_alloc (below_alloc (below_alloc HB.out _) _) _) _) HGB.out u
       have hlen:fill c d c2 e ws 0 (t+s)=List.replicate (e+di) 0:=by rw [fill_zero,HDL.out s hsx,Nat.add_comm]
       have hD4:=fun o o2=>HD.out.grow hkn HB.out.size (HDL.out s hsx) hlen o o2
       case rel=>exact⟨s+1,_,_,by omega,by go_num,by go_num,⟨hB4 _ _ _ _ _⟩,⟨hE4 _ _ _ _ _⟩,⟨hD4 _ _⟩⟩
       case measure=>simp [intOf];omega
      ·have:s=x:=by omega
       subst this
       go_wp2_with (go_at_call 160;refine (ecb_count' _ (s:Int) (di:Int)).mono ?_;rintro e w' ⟨rfl,rfl⟩)
       go_roundw
       case rel=>exact⟨i+1,t+s,p,q,by omega,by go_num,rfl,by omega,HSUM,⟨below_alloc HB.out _⟩,⟨HD.out.below (below_alloc (Below.refl _ _) _) (Nat.le_refl _)⟩⟩
       case measure=>simp [intOf];omega
    ·have:m=i:=by omega
     subst this
     have hbE:Blk wr ge 224 es:=HES.out.1.below HB.out HES.out.1.lt
     have cE:wr.cell? ⟨ge,o,none⟩=some (.int .i64 (e:Int)):=(hbE.cell o).trans HES.out.2
     have htn:n=t:=by rw [HTS.out,<- HM.out,grpS_end,HNN.out]
     subst htn
     have hn1:1<=n:=by have:=HNN.out;omega
     obtain⟨r0,r1,-⟩:=HD.out.facts (j:=0) (x:=0) (by omega) (by omega)
     have hdl0:dl c d 0=d:=by unfold dl;rw [if_pos (by omega)]
     rw [hdl0] at r1
     have hcn:c<=n:=by have:=HNN.out;omega
     have HCE:=Aside0.mk cE
     go_wp2
     clear r0 r1 hdl0 hbE cE
     obtain⟨wo,hwo⟩:∃ wo,wo=wr:=⟨_,rfl⟩
     rw [<- hwo] at HB HD HCE ⊢
     clear hwo
     go_loopw [21] (fun v wr=>∃ j:Nat,v=.int .i64 (j:Int)/\j<n/\c<=j+1/\wr=wo) (fun v _=>(intOf v).toNat)
     case atStart=>exact⟨n-1,by go_num,by omega,by omega,by first | rfl | trivial⟩
     case round=>
      obtain⟨j,rfl,hj1,hj2,rfl⟩:=hrel
      obtain⟨r0,r1,-⟩:=HD.out.facts (j:=j) (x:=0) hj1 (by omega)
      by_cases hjc:c<=j
      ·have hdlj:dl c d j=d+1:=by unfold dl;rw [if_neg (by omega)]
       rw [hdlj] at r1
       go_wp2
       go_roundw
       case rel=>exact⟨j-1,by go_num,by omega,by omega,by first | rfl | trivial⟩
       case measure=>simp [intOf];omega
      ·have hdlj:dl c d j=d:=by unfold dl;rw [if_pos (by omega)]
       rw [hdlj] at r1
       have hjc1:(j:Int)+1=(c:Int):=by omega
       have cE:=HCE.out
       have kE:=ecbs_perO wr ge o (e:Int) cE
       go_wp2_with (go_at_call 158;refine kE.mono ?_;rintro e' w' ⟨rfl,rfl⟩)
       clear r0 r1 hdlj cE kE hjc1 hjc hj1 hj2
       have HCC:=HNN
       obtain⟨P1,hP1⟩:∃ P1,d*n=P1:=⟨_,rfl⟩
       obtain⟨P2,hP2⟩:∃ P2,e*n=P2:=⟨_,rfl⟩
       have hPT:P1+c2+P2=T:=by have:=HTT.out;rw [HNN.out,hP1,hP2] at this;exact this
       have HP1:=Aside0.mk hP1
       have HP2:=Aside0.mk hP2
       have hcc:c+c2=n:=HNN.out
       have h4:∀ i j,i<d->j<n->i*n+j<P1:=fun i j hi hj=>by rw [<- HP1.out];exact mulAdd_lt hj hi
       have H4:=Aside0.mk h4
       have h6:∀ i j,i<e->j<n->i*n+j<P2:=fun i j hi hj=>by rw [<- HP2.out];exact mulAdd_lt hj hi
       have H6:=Aside0.mk h6
       clear hP1 hP2 h4 h6 HCE
       go_loopw [24,25] (fun vo vi wr=>∃ i off:Nat,vi=.int .i64 (i:Int)/\vo=.int .i64 (off:Int)/\i<=d/\off<=T/\Aside0 (off=i*n)/\Aside0 (Below w.heap.size w wr)/\Aside0 (Dbs wr gR w.heap.size n n p q (dl c d) (fill c d c2 e ws off))) (fun _ vi _=>(d-intOf vi).toNat)
       case atStart=>exact⟨0,0,rfl,rfl,by omega,by omega,⟨by simp⟩,HB,HD⟩
       case round=>
        clear HB HD
        obtain⟨i,off,rfl,rfl,hi,hoff,HO,HB,HD⟩:=hrel
        by_cases hid:i<d
        ·go_wp2
         obtain⟨w4,hw4⟩:∃ w4,w4=wr:=⟨_,rfl⟩
         rw [<- hw4] at HB HD ⊢
         clear hw4
         have HO1:=HO
         go_loopw [24,26] (fun vo vj wr=>∃ j off:Nat,vj=.int .i64 (j:Int)/\vo=.int .i64 (off:Int)/\j<=n/\off<=T/\Aside0 (off=i*n+j)/\Aside0 (Below w.heap.size w wr)/\Aside0 (Dbs wr gR w.heap.size n n p q (dl c d) (fill c d c2 e ws off))) (fun _ vj _=>(n-intOf vj).toNat)
         case atStart=>exact⟨0,off,rfl,rfl,by omega,by omega,HO1,HB,HD⟩
         case round=>
          clear HB HD
          obtain⟨j,off,rfl,rfl,hj,hoff,HO,HB,HD⟩:=hrel
          by_cases hjn:j<n
          ·have hoP:off<P1:=by rw [HO.out];exact H4.out i j hid hjn
           have hoT:off<T:=by omega
           have hpos:posOf c d c2 j i=off:=by unfold posOf;rw [if_pos hid,HNN.out,HO.out]
           have hfit:i<dl c d j+e:=by unfold dl;split<;>omega
           obtain⟨r0,r1,⟨old,r2⟩,r3⟩:=HD.out.facts (j:=j) (x:=i) hjn hfit
           obtain⟨L,hL⟩:∃ L,dl c d j+e=L:=⟨_,rfl⟩
           have hxL:i<L:=by rw [<- hL];exact hfit
           rw [hL] at r1
           obtain⟨vv,hvv⟩:∃ vv,ws.getD off 0=vv:=⟨_,rfl⟩
           have r4:wr.cell? ⟨gw,off,none⟩=some (.int .u8 (vv:Int)):=by
            have:=UBlk.cell (Blk.below HW.out HB.out (Blk.lt HW.out)) off (by rw [HN.out];exact hoT)
            rw [hvv] at this
            exact this
           have HD2:=Aside0.mk (HD.out.step HNN.out hjn hpos hvv)
           have HB2:=Aside0.mk (Below.setc (below_drew1 HB.out) (HD.out.fresh j hjn) (i:=i) (.int .u8 (vv:Int)))
           clear hL hvv hpos
           go_wp2
           apply held
           case r=>
            intro REST
            go_region
            all_goals exact REST
           go_wp2
           clear r0 r1 r2 r3 r4
           go_roundw
           case rel=>exact⟨j+1,off+1,by go_num,by go_num,by omega,by omega,⟨by rw [HO.out,Nat.add_assoc]⟩,HB2,HD2⟩
           case measure=>simp [intOf];omega
          ·have:n=j:=by omega
           subst this
           go_wp2
           go_roundw
           case rel=>exact⟨i+1,off,by go_num,rfl,by omega,by omega,⟨by rw [HO.out,Nat.add_mul,Nat.one_mul]⟩,HB,HD⟩
           case measure=>simp [intOf];omega
        ·have:d=i:=by omega
         subst this
         go_wp2
         obtain⟨w4,hw4⟩:∃ w4,w4=wr:=⟨_,rfl⟩
         rw [<- hw4] at HB HD ⊢
         clear hw4
         have HO1:=HO
         go_loopw [24,27] (fun vo vj wr=>∃ j off:Nat,vj=.int .i64 (j:Int)/\vo=.int .i64 (off:Int)/\c<=j/\j<=n/\off<=T/\Aside0 (off=P1+(j-c))/\Aside0 (Below w.heap.size w wr)/\Aside0 (Dbs wr gR w.heap.size n n p q (dl c d) (fill c d c2 e ws off))) (fun _ vj _=>(n-intOf vj).toNat)
         case atStart=>exact⟨c,off,rfl,rfl,by omega,by omega,by omega,⟨by rw [HO1.out,HP1.out];omega⟩,HB,HD⟩
         case round=>
          clear HB HD
          obtain⟨j,off,rfl,rfl,hcj,hj,hoff,HO,HB,HD⟩:=hrel
          by_cases hjn:j<n
          ·have hdl:dl c d j=d+1:=by unfold dl;rw [if_neg (by omega)]
           have hoT:off<T:=by have:=HO.out;omega
           have hpos:posOf c d c2 j d=off:=by unfold posOf;rw [if_neg (by omega),hdl,if_pos (by omega),HNN.out,HP1.out,HO.out]
           have hfit:d<dl c d j+e:=by rw [hdl];omega
           clear hdl
           obtain⟨r0,r1,⟨old,r2⟩,r3⟩:=HD.out.facts (j:=j) (x:=d) hjn hfit
           obtain⟨L,hL⟩:∃ L,dl c d j+e=L:=⟨_,rfl⟩
           have hxL:d<L:=by rw [<- hL];exact hfit
           rw [hL] at r1
           obtain⟨vv,hvv⟩:∃ vv,ws.getD off 0=vv:=⟨_,rfl⟩
           have r4:wr.cell? ⟨gw,off,none⟩=some (.int .u8 (vv:Int)):=by
            have:=UBlk.cell (Blk.below HW.out HB.out (Blk.lt HW.out)) off (by rw [HN.out];exact hoT)
            rw [hvv] at this
            exact this
           have HD2:=Aside0.mk (HD.out.step HNN.out hjn hpos hvv)
           have HB2:=Aside0.mk (Below.setc (below_drew1 HB.out) (HD.out.fresh j hjn) (i:=d) (.int .u8 (vv:Int)))
           clear hL hvv hpos
           go_wp2
           apply held
           case r=>
            intro REST
            go_region
            all_goals exact REST
           go_wp2
           clear r0 r1 r2 r3 r4
           go_roundw
           case rel=>exact⟨j+1,off+1,by go_num,by go_num,by omega,by omega,by omega,⟨by have:=HO.out;omega⟩,HB2,HD2⟩
           case measure=>simp [intOf];omega
          ·have:n=j:=by omega
           subst this
           obtain⟨r0,r1,-⟩:=HD.out.facts (j:=0) (x:=0) (by omega) (by omega)
           have hdl0:dl c d 0=d:=by unfold dl;rw [if_pos (by omega)]
           rw [hdl0] at r1
           go_wp2
           clear r0 r1 hdl0
           obtain⟨w4,hw4⟩:∃ w4,w4=wr:=⟨_,rfl⟩
           rw [<- hw4] at HB HD ⊢
           clear hw4
           go_loopw [24,29] (fun vo vi wr=>∃ i off:Nat,vi=.int .i64 ((d+i:Nat):Int)/\vo=.int .i64 (off:Int)/\i<=e/\off<=T/\Aside0 (off=P1+c2+i*n)/\Aside0 (Below w.heap.size w wr)/\Aside0 (Dbs wr gR w.heap.size n n p q (dl c d) (fill c d c2 e ws off))) (fun _ vi _=>(d+e-intOf vi).toNat)
           case atStart=>exact⟨0,off,rfl,rfl,by omega,by omega,⟨by have:=HO.out;omega⟩,HB,HD⟩
           case round=>
            clear HB HD
            obtain⟨i,off,rfl,rfl,hi,hoff,HO,HB,HD⟩:=hrel
            by_cases hie:i<e
            ·go_wp2
             obtain⟨w4,hw4⟩:∃ w4,w4=wr:=⟨_,rfl⟩
             rw [<- hw4] at HB HD ⊢
             clear hw4
             have HO1:=HO
             go_loopw [24,30] (fun vo vj wr=>∃ j off:Nat,vj=.int .i64 (j:Int)/\vo=.int .i64 (off:Int)/\j<=n/\off<=T/\Aside0 (off=P1+c2+i*n+j)/\Aside0 (Below w.heap.size w wr)/\Aside0 (Dbs wr gR w.heap.size n n p q (dl c d) (fill c d c2 e ws off))) (fun _ vj _=>(n-intOf vj).toNat)
             case atStart=>exact⟨0,off,rfl,rfl,by omega,by omega,HO1,HB,HD⟩
             case round=>
              clear HB HD
              obtain⟨j,off,rfl,rfl,hj,hoff,HO,HB,HD⟩:=hrel
              by_cases hjn:j<n
              ·have hoP:off<T:=by
                have:=H6.out i j hie hjn
                have:=HO.out
                omega
               have hoT:off<T:=by omega
               by_cases hjc:j<c
               ·have hdl:dl c d j=d:=by unfold dl;rw [if_pos hjc]
                have hpos:posOf c d c2 j (d+i)=off:=by unfold posOf;rw [if_neg (by omega),hdl,if_neg (by omega),HNN.out,HP1.out,HO.out,show d+i-d=i by omega]
                have hfit:d+i<dl c d j+e:=by rw [hdl];omega
                clear hdl
                obtain⟨r0,r1,⟨old,r2⟩,r3⟩:=HD.out.facts (j:=j) (x:=(d+i)) hjn hfit
                obtain⟨L,hL⟩:∃ L,dl c d j+e=L:=⟨_,rfl⟩
                have hxL:(d+i)<L:=by rw [<- hL];exact hfit
                rw [hL] at r1
                obtain⟨vv,hvv⟩:∃ vv,ws.getD off 0=vv:=⟨_,rfl⟩
                have r4:wr.cell? ⟨gw,off,none⟩=some (.int .u8 (vv:Int)):=by
                 have:=UBlk.cell (Blk.below HW.out HB.out (Blk.lt HW.out)) off (by rw [HN.out];exact hoT)
                 rw [hvv] at this
                 exact this
                have HD2:=Aside0.mk (HD.out.step HNN.out hjn hpos hvv)
                have HB2:=Aside0.mk (Below.setc (below_drew1 HB.out) (HD.out.fresh j hjn) (i:=(d+i)) (.int .u8 (vv:Int)))
                clear hL hvv hpos
                go_wp2
                apply held
                case r=>
                 intro REST
                 go_region
                 all_goals exact REST
                go_wp2
                clear r0 r1 r2 r3 r4
                go_roundw
                case rel=>exact⟨j+1,off+1,by go_num,by go_num,by omega,by omega,⟨by rw [HO.out,Nat.add_assoc]⟩,HB2,HD2⟩
                case measure=>simp [intOf];omega
               ·have hdl:dl c d j=d+1:=by unfold dl;rw [if_neg hjc]
                have hpos:posOf c d c2 j (d+i+1)=off:=by unfold posOf;rw [if_neg (by omega),hdl,if_neg (by omega),HNN.out,HP1.out,HO.out,show d+i+1-(d+1)=i by omega]
                have hfit:d+i+1<dl c d j+e:=by rw [hdl];omega
                clear hdl
                obtain⟨r0,r1,⟨old,r2⟩,r3⟩:=HD.out.facts (j:=j) (x:=(d+i+1)) hjn hfit
                obtain⟨L,hL⟩:∃ L,dl c d j+e=L:=⟨_,rfl⟩
                have hxL:(d+i+1)<L:=by rw [<- hL];exact hfit
                rw [hL] at r1
                obtain⟨vv,hvv⟩:∃ vv,ws.getD off 0=vv:=⟨_,rfl⟩
                have r4:wr.cell? ⟨gw,off,none⟩=some (.int .u8 (vv:Int)):=by
                 have:=UBlk.cell (Blk.below HW.out HB.out (Blk.lt HW.out)) off (by rw [HN.out];exact hoT)
                 rw [hvv] at this
                 exact this
                have HD2:=Aside0.mk (HD.out.step HNN.out hjn hpos hvv)
                have HB2:=Aside0.mk (Below.setc (below_drew1 HB.out) (HD.out.fresh j hjn) (i:=(d+i+1)) (.int .u8 (vv:Int)))
                clear hL hvv hpos
                go_wp2
                apply held
                case r=>
                 intro REST
                 go_region
                 all_goals exact REST
                go_wp2
                clear r0 r1 r2 r3 r4
                go_roundw
                case rel=>exact⟨j+1,off+1,by go_num,by go_num,by omega,by omega,⟨by rw [HO.out,Nat.add_assoc]⟩,HB2,HD2⟩
                case measure=>simp [intOf];omega
              ·have:n=j:=by omega
               subst this
               go_wp2
               go_roundw
               case rel=>exact⟨i+1,off,by go_num,rfl,by omega,by omega,⟨by rw [HO.out,Nat.add_mul,Nat.one_mul,Nat.add_assoc]⟩,HB,HD⟩
               case measure=>simp [intOf];omega
            ·have:e=i:=by omega
             subst this
             have hend:off=d*n+c2+e*n:=by rw [HO.out,HP1.out]
             have hDD:=HD.out
             rw [hend] at hDD
             have HDD:=Aside0.mk (fill_full c d c2 e ws HNN.out hDD)
             clear hend hDD
             go_wp2
             go_ret2
             refine⟨gR,p,q,by first | (rw [HNN.out];done) | (rw [HNN.out];rfl),HGB.out,?_,HB.out⟩
             rw [HNN.out]
             exact HDD.out
theorem strip_alllt {m:Nat}{xs:List Nat}(h:AllLt m xs):AllLt m (strip xs):=by
 unfold strip
 cases hd:xs.dropWhile (·==0) with
 | nil=>intro x hx;rw [List.mem_singleton.1 hx];exact Nat.two_pow_pos m
 | cons y ys=>
  intro x hx
  have:x∈xs.dropWhile (·==0):=by rw [hd];exact hx
  exact h x ((List.dropWhile_suffix _).subset this)
theorem pev_strip (m p r:Nat)(xs:List Nat):pev m p r (strip xs)=pev m p r xs:=by
 have key:∀ xs:List Nat,pev m p r (match xs.dropWhile (·==0) with | []=>[0] | y :: ys=>y :: ys)=pev m p r xs:=by
  intro xs
  induction xs with
  | nil=>show gm m p 0 r ^^^ 0=0;rw [gm_zero_left];rfl
  | cons x xs ih=>
   by_cases hx:x=0
   ·subst hx
    rw [List.dropWhile_cons,if_pos (show (0==0)=true from rfl),ih]
    show _=pevF m p r (gm m p 0 r ^^^ 0) xs
    rw [gm_zero_left]
    rfl
   ·rw [List.dropWhile_cons,if_neg (by simpa using hx)]
 exact key xs
theorem strip_len (xs:List Nat)(h:xs≠[]):(strip xs).length<=xs.length:=by
 have hpos:0<xs.length:=by cases xs with | nil=>exact absurd rfl h | cons _ _=>simp
 unfold strip
 cases hd:xs.dropWhile (·==0) with
 | nil=>exact hpos
 | cons y ys=>
  have:=(List.dropWhile_suffix (l:=xs) (·==0)).length_le
  rw [hd] at this
  exact this
theorem replicate_set (n i:Nat):(List.replicate n 0).set i 0=List.replicate n 0:=by
 apply List.ext_getElem
 ·simp
 ·intro j h1 h2
  rw [List.getElem_set]
  split<;>simp
set_option maxHeartbeats 1000000 in
set_option maxRecDepth 8000 in
theorem rsClean (w:World)(rs gf m p b g T:Nat)(xs:List Nat)(F:Fld m p)(hP:Prim m p)(hm:m<=12)(hR:Blk w rs 196 #[.pointer (some ⟨gf,0,none⟩)])(hG:GFAt w gf m p b)(hX:IBlk w g xs)(hx:AllLt m xs)(h0:xs≠[])(hl:xs.length<=100000)
  (hT:T+b<=2 ^ m) (hs:∀ i,i<T->pev m p (gx m p (i+b)) xs=0) :
  Calls Tryz.prog 172 #[.pointer (some ⟨rs,0,none⟩),.slice (some ⟨g,0,none⟩) xs.length xs.length,.int .i64 (T:Int)] w fun e w'=>e=.returned .nilIface/\Below w.heap.size w w':=by
 have hN4:2 ^ m<=4096:=Nat.le_trans (Nat.pow_le_pow_right (by omega) hm) (by decide)
 have HF:=Aside0.mk F
 have HP:=Aside0.mk hP
 have HR:=Aside0.mk hR
 have HG:=Aside0.mk hG
 have HX:=Aside0.mk hx
 have HS:=Aside0.mk hs
 have HT:=Aside0.mk hT
 have hlen:=strip_len xs h0
 have HL:=Aside0.mk (Nat.le_trans hlen hl)
 have kp:=newPoly w gf g 0 xs.length xs (IRow.whole hX) (Nat.le_refl _) h0 hl
 have c0:w.cell? ⟨rs,0,none⟩=some (.pointer (some ⟨gf,0,none⟩)):=hR.cell 0
 obtain⟨n,hn⟩:∃ n,xs.length=n:=⟨_,rfl⟩
 rw [hn] at kp ⊢
 have hT4:T<=4096:=by omega
 have hb4:b<=4096:=by omega
 clear F hP hR hG hX hx h0 hl hs hT hlen hn hN4
 have mk:=make_int T (by omega)
 go_enter Tryz.func172,Tryz.ntmps172
 go_wp2_with (go_at_call 146;refine kp.mono ?_;rintro e w1 ⟨q,rfl,hq,hPA,hb1⟩)
 clear kp mk
 have HPA:=Aside0.mk hPA
 have HB1:=Aside0.mk hb1
 clear hPA hb1 c0
 obtain⟨gs,hgs⟩:∃ gs,gs=w1.heap.size:=⟨_,rfl⟩
 rw [<- hgs]
 obtain⟨w2,hw2⟩:∃ w2,w2=w1.alloc (.cells (nums .i64 (ints (List.replicate T 0))).toArray 3):=⟨_,rfl⟩
 rw [<- hw2]
 have HZ:=Aside0.mk (show IBlk w2 gs (List.replicate T 0) by rw [hw2,hgs];exact Blk.new _ _ _)
 have HB2:=Aside0.mk (show Below w1.heap.size w1 w2 by rw [hw2];exact below_alloc (Below.refl _ _) _)
 have HGS:=Aside0.mk hgs
 clear hw2 hgs
 go_loopw [10,11] (fun vb vi wr=>∃ i:Nat,vi=.int .i64 (i:Int)/\vb=.bool true/\i<=T/\Aside0 (Below w1.heap.size w1 wr)/\Aside0 (IBlk wr gs (List.replicate T 0))) (fun _ vi _=>(T-intOf vi).toNat)
 case atStart=>exact⟨0,rfl,rfl,by omega,HB2,HZ⟩
 case round=>
  clear HB2 HZ
  obtain⟨i,rfl,rfl,hi,HB,HZ⟩:=hrel
  by_cases hiT:i<T
  ·have hR1:=(HR.out.below HB1.out HR.out.lt).below HB.out (HR.out.below HB1.out HR.out.lt).lt
   have d0:wr.cell? ⟨rs,0,none⟩=some (.pointer (some ⟨gf,0,none⟩)):=hR1.cell 0
   have HG2:=Aside0.mk ((HG.out.below HB1.out (Nat.le_refl _)).below HB.out (Nat.le_refl _))
   have HP2:=Aside0.mk (HPA.out.below HB.out (Nat.le_refl _))
   have hib:i+b<2 ^ m:=by have:=HT.out;omega
   have k1:=fun k=>gfBase (wr.drewN k) gf m p b (HG2.out.drawn k)
   have k2:=fun k=>gfExp (wr.drewN k) gf m p b (i+b) (HG2.out.drawn k) hib
   rw [show ((i+b:Nat):Int)=(i:Int)+(b:Int) by omega] at k2
   have k3:=fun k=>polyEval (wr.drewN k) q gf m p b (gx m p (i+b)) (strip xs) HF.out HP.out hm (HG2.out.drawn k) (HP2.out.drawn k) (strip_alllt HX.out) (gx_lt HF.out _) HL.out
   rw [pev_strip,HS.out i hiT] at k3
   obtain⟨a,ha⟩:∃ a,gx m p (i+b)=a:=⟨_,rfl⟩
   rw [ha] at k2 k3
   have z1:wr.cell? ⟨gs,T-1-i,none⟩=some (.int .i64 0):=by
    have:=HZ.out.cell (T-1-i) (by rw [List.length_replicate];omega)
    rw [this]
    simp only [List.getD,List.getElem?_replicate]
    split<;>rfl
   have z2:wr.frozen? ⟨gs,T-1-i,none⟩=false:=Blk.frozen HZ.out _
   obtain⟨j,hj⟩:∃ j,T-1-i=j:=⟨_,rfl⟩
   rw [hj] at z1 z2
   have hji:(T:Int)-1-(i:Int)=(j:Int):=by omega
   have hjT:j<T:=by omega
   have hgsz:w1.heap.size<=gs:=by rw [HGS.out];exact Nat.le_refl _
   have HGZ:=Aside0.mk hgsz
   have HZ2:=Aside0.mk (fun k=>show IBlk ((wr.drewN k).setCell ⟨gs,j,none⟩ (.int .i64 0)) gs (List.replicate T 0) by
    have:=(show IBlk (wr.drewN k) gs (List.replicate T 0) from Blk.below HZ.out (pw_below_drewN (Below.refl wr.heap.size wr) k) (Blk.lt HZ.out)).set j 0
    rw [replicate_set] at this
    exact this)
   have HBZ:=Aside0.mk (fun k=>(show Below w1.heap.size w1 ((wr.drewN k).setCell ⟨gs,j,none⟩ (.int .i64 0)) from Below.setc (pw_below_drewN HB.out k) HGZ.out _))
   clear hR1 hib ha hj hgsz
   go_wp2
   go_quiet (first
    | (go_at_call 177;exact Calls.quiet_of_same (k1 _))
    | (go_at_call 176;exact Calls.quiet_of_same (k2 _))
    | (go_at_call 175;exact Calls.quiet_of (k3 _)))
   clear k1 k2 k3
   go_wp2
   go_roundw
   case rel=>exact⟨i+1,by go_num,rfl,by omega,⟨HBZ.out _⟩,⟨HZ2.out _⟩⟩
   case measure=>simp [intOf];omega
  ·have:T=i:=by omega
   subst this
   go_wp2
   go_ret
   exact⟨rfl,below_then HB1.out HB1.out.size HB.out⟩
theorem u8_and255 (x:Nat)(h:x<256):Go.bits .and .u8 (x:Int) 255=(x:Int):=by
 have:=(bits_nat .u8 8 (by decide) (fun n h0 h1=>by rw [IntKind.wrap_u8];omega) x 255 h (by decide)).1
 rw [show (255:Int)=((255:Nat):Int) from rfl,this,show x &&& 255=x%256 from Nat.and_two_pow_sub_one_eq_mod (n:=8) x,Nat.mod_eq_of_lt h]
def copyTo (ws:List Nat)(i:Nat):List Nat:=ws.take i++List.replicate (ws.length-i) 0
theorem copyTo_len (ws:List Nat)(i:Nat)(h:i<=ws.length):(copyTo ws i).length=ws.length:=by unfold copyTo;simp;omega
theorem copyTo_all (ws:List Nat):copyTo ws ws.length=ws:=by unfold copyTo;simp
theorem copyTo_set (ws:List Nat)(i:Nat)(h:i<ws.length):(copyTo ws i).set i (ws.getD i 0)=copyTo ws (i+1):=by
 unfold copyTo
 have hl:(ws.take i).length=i:=by simp;omega
 rw [List.set_append_right _ _ (by omega),hl,Nat.sub_self,show ws.length-i=(ws.length-(i+1))+1 by omega,List.replicate_succ,List.set_cons_zero,take_snoc ws i h,List.append_assoc]
 rfl
theorem set_self (ws:List Nat)(i:Nat)(h:i<ws.length):ws.set i (ws.getD i 0)=ws:=by
 apply List.ext_getElem
 ·simp
 ·intro j h1 h2
  rw [List.getElem_set]
  split
  ·rename_i e
   subst e
   simp [List.getD,List.getElem?_eq_getElem h]
  ·rfl
set_option maxHeartbeats 1000000 in
theorem corrClean (w:World)(d rs gf g n dn:Nat)(ws:List Nat)(hD:DecAt w d rs gf)(hU:UBlk w g ws)(hw:AllLt 8 ws)(hn:ws.length=n)(hn1:1<=n)(hn2:n<=1000)(hd:dn<=n)(he:n-dn<=250)(hs:∀ i,i<n-dn->pev 8 285 (gx 8 285 i) ws=0) :
  Calls Tryz.prog 165 #[.pointer (some ⟨d,0,none⟩),.slice (some ⟨g,0,none⟩) n n,.int .i64 (dn:Int)] w fun e w'=>e=.returned .nilIface/\Below w.heap.size w w':=by
 obtain⟨hD1,hD2,hD3⟩:=hD
 have c0:w.cell? ⟨d,0,none⟩=some (.pointer (some ⟨rs,0,none⟩)):=hD1.cell 0
 have HD1:=Aside0.mk hD1
 have HD2:=Aside0.mk hD2
 have HD3:=Aside0.mk hD3
 have HU:=Aside0.mk hU
 have HW:=Aside0.mk hw
 have HN:=Aside0.mk hn
 have HS:=Aside0.mk hs
 have mk:=make_int n (by omega)
 clear hD1 hD2 hD3 hU hw hn hs
 go_enter Tryz.func165,Tryz.ntmps165
 go_wp2
 clear mk c0
 obtain⟨gi,hgi⟩:∃ gi,gi=w.heap.size:=⟨_,rfl⟩
 rw [<- hgi]
 obtain⟨w1,hw1⟩:∃ w1,w1=w.alloc (.cells (nums .i64 (ints (List.replicate n 0))).toArray 3):=⟨_,rfl⟩
 rw [<- hw1]
 have HZ:=Aside0.mk (show IBlk w1 gi (copyTo ws 0) by unfold copyTo;rw [hw1,hgi,HN.out];exact Blk.new _ _ _)
 have HB1:=Aside0.mk (show Below w.heap.size w w1 by rw [hw1];exact below_alloc (Below.refl _ _) _)
 have HGI:=Aside0.mk hgi
 clear hw1 hgi
 go_loopw [9] (fun vi wr=>∃ i:Nat,vi=.int .i64 (i:Int)/\i<=n/\Aside0 (Below w.heap.size w wr)/\Aside0 (IBlk wr gi (copyTo ws i))) (fun vi _=>(n-intOf vi).toNat)
 case atStart=>exact⟨0,rfl,by omega,HB1,HZ⟩
 case round=>
  clear HB1 HZ
  obtain⟨i,rfl,hi,HB,HZ⟩:=hrel
  by_cases hin:i<n
  ·obtain⟨x,hx⟩:∃ x,ws.getD i 0=x:=⟨_,rfl⟩
   have hx8:x<256:=by rw [<- hx];exact getD_lt HW.out i
   have r0:wr.cell? ⟨g,i,none⟩=some (.int .u8 (x:Int)):=by
    have:=UBlk.cell (Blk.below HU.out HB.out (Blk.lt HU.out)) i (by rw [HN.out];exact hin)
    rw [hx] at this
    exact this
   obtain⟨old,hold⟩:∃ old,(copyTo ws i).getD i 0=old:=⟨_,rfl⟩
   have r1:wr.cell? ⟨gi,i,none⟩=some (.int .i64 (old:Int)):=by
    have:=HZ.out.cell i (by rw [copyTo_len ws i (by rw [HN.out];exact hi),HN.out];exact hin)
    rw [hold] at this
    exact this
   have r2:wr.frozen? ⟨gi,i,none⟩=false:=Blk.frozen HZ.out _
   have ra:=u8_and255 x hx8
   have HZ2:=Aside0.mk (show IBlk (wr.setCell ⟨gi,i,none⟩ (.int .i64 (x:Int))) gi (copyTo ws (i+1)) by
    have:=HZ.out.set i x
    rw [<- hx,copyTo_set ws i (by rw [HN.out];exact hin),hx] at this
    exact this)
   have HB2:=Aside0.mk (show Below w.heap.size w (wr.setCell ⟨gi,i,none⟩ (.int .i64 (x:Int))) from Below.setc HB.out (by rw [HGI.out];exact Nat.le_refl _) _)
   clear hx hold
   go_wp2
   go_roundw
   case rel=>exact⟨i+1,by go_num,by omega,HB2,HZ2⟩
   case measure=>simp [intOf];omega
  ·have:n=i:=by omega
   subst this
   have hZ:=HZ.out
   rw [<- HN.out,copyTo_all] at hZ
   have HZ2:=Aside0.mk hZ
   have c0:wr.cell? ⟨d,0,none⟩=some (.pointer (some ⟨rs,0,none⟩)):=(HD1.out.below HB.out HD1.out.lt).cell 0
   have kr:=rsClean wr rs gf 8 285 0 gi (n-dn) ws fQR pQR (by decide) (HD2.out.below HB.out HD2.out.lt) (HD3.out.below HB.out (Nat.le_refl _)) hZ HW.out (by intro h;have:=HN.out;rw [h] at this;simp at this;omega) (by rw [HN.out];omega) (by have:(2:Nat) ^ 8=256:=rfl;omega) (fun i hi=>HS.out i hi)
   rw [HN.out,show ((n-dn:Nat):Int)=(n:Int)-(dn:Int) by omega] at kr
   clear hZ
   go_wp2_with (go_at_call 172;refine kr.mono ?_;rintro e w2 ⟨rfl,hb2⟩)
   clear kr c0
   have HB3:=Aside0.mk (below_then HB.out HB.out.size hb2)
   have HZ3:=Aside0.mk (show IBlk w2 gi ws from Blk.below HZ2.out hb2 (Blk.lt HZ2.out))
   have HU3:=Aside0.mk (show UBlk w2 g ws from Blk.below (Blk.below HU.out HB.out (Blk.lt HU.out)) hb2 (Blk.lt (Blk.below HU.out HB.out (Blk.lt HU.out))))
   clear hb2 HZ HZ2
   go_loopw [11] (fun vi wr=>∃ i:Nat,vi=.int .i64 (i:Int)/\i<=dn/\Aside0 (UBlk wr g ws)/\Aside0 (Turn w2 wr g)) (fun vi _=>(dn-intOf vi).toNat)
   case atStart=>exact⟨0,rfl,by omega,HU3,⟨Turn.refl _ _⟩⟩
   case round=>
    obtain⟨i,rfl,hi,HU4,HT⟩:=hrel
    by_cases hid:i<dn
    ·obtain⟨x,hx⟩:∃ x,ws.getD i 0=x:=⟨_,rfl⟩
     have hx8:x<256:=by rw [<- hx];exact getD_lt HW.out i
     have hgne:gi≠g:=blk_ne HZ3.out HU3.out (by decide)
     have r0:wr.cell? ⟨gi,i,none⟩=some (.int .i64 (x:Int)):=by
      have:=IBlk.cell (HT.out.blk HZ3.out hgne) i (by rw [HN.out];omega)
      rw [hx] at this
      exact this
     have r1:wr.cell? ⟨g,i,none⟩=some (.int .u8 (x:Int)):=by
      have:=UBlk.cell HU4.out i (by rw [HN.out];omega)
      rw [hx] at this
      exact this
     have r2:wr.frozen? ⟨g,i,none⟩=false:=Blk.frozen HU4.out _
     have HU5:=Aside0.mk (show UBlk (wr.setCell ⟨g,i,none⟩ (.int .u8 (x:Int))) g ws by
      have:=HU4.out.set i x
      rw [<- hx,set_self ws i (by rw [HN.out];omega),hx] at this
      exact this)
     have HT5:=Aside0.mk (HT.out.trans (Turn.set wr g i (.int .u8 (x:Int))))
     clear hx hgne
     go_wp2
     go_roundw
     case rel=>exact⟨i+1,by go_num,by omega,HU5,HT5⟩
     case measure=>simp [intOf];omega
    ·have:dn=i:=by omega
     subst this
     go_wp2
     go_ret
     refine⟨rfl,HT.out.os.trans HB3.out.os,HT.out.tape.trans HB3.out.tape,HT.out.output.trans HB3.out.output,by rw [HT.out.size];exact HB3.out.size,fun k hk=>?_⟩
     by_cases hkg:k=g
     ·subst hkg
      exact (show _=_ from HU4.out).trans (show _=_ from HU.out).symm
     ·exact (HT.out.block k hkg).trans (HB3.out.block k hk)
def capAt (w:World)(g:Nat):Nat:=match w.heap[g]? with
 | some (.cells cs _ _)=>cs.size
 | _=>0
theorem capAt_eq {w w':World}{g:Nat}(h:w'.heap[g]? = w.heap[g]?):capAt w' g=capAt w g:=by unfold capAt;rw [h]
theorem capAt_blk {w:World}{g:Nat}{t:TypeId}{cs:Array Value}(h:Blk w g t cs):capAt w g=cs.size:=by
 unfold capAt
 rw [show w.heap[g]? = some (.cells cs t (0,0)) from h]
structure RBlk (w:World)(g:Nat)(xs:List Nat):Prop where
 blk:∃ cs,Blk w g 5 cs
 cell:∀ i,i<xs.length->w.cell? ⟨g,i,none⟩=some (.int .u8 ((xs.getD i 0:Nat):Int))
theorem UBlk.r {w:World}{g:Nat}{xs:List Nat}(h:UBlk w g xs):RBlk w g xs:=⟨⟨_,h⟩,fun i hi=>h.cell i hi⟩
theorem UBlk.cap {w:World}{g:Nat}{xs:List Nat}(h:UBlk w g xs):capAt w g=xs.length:=by rw [capAt_blk h];simp [nums,ints]
theorem RBlk.move {w w':World}{g:Nat}{xs:List Nat}(h:RBlk w g xs)(hb:w'.heap[g]? = w.heap[g]?):RBlk w' g xs:=by
 obtain⟨⟨cs,h1⟩,h2⟩:=h
 refine⟨⟨cs,hb.trans h1⟩,fun i hi=>?_⟩
 rw [<- h2 i hi]
 unfold World.cell?
 rw [hb]
theorem RBlk.lt {w:World}{g:Nat}{xs:List Nat}(h:RBlk w g xs):g<w.heap.size:=by obtain⟨⟨cs,h1⟩,_⟩:=h;exact h1.lt
theorem RBlk.below {w w':World}{g B:Nat}{xs:List Nat}(h:RBlk w g xs)(hb:Below B w w')(hg:g<B):RBlk w' g xs:=h.move (hb.block g hg)
theorem RBlk.turn {w w':World}{g s:Nat}{xs:List Nat}(h:RBlk w g xs)(ht:Turn w w' s)(hne:g≠s):RBlk w' g xs:=h.move (ht.block g hne)
theorem RBlk.reads {w:World}{g:Nat}{xs:List Nat}(h:RBlk w g xs)(hl:xs.length<=1000000):ReadsInt w .u8 (some ⟨g,0,none⟩) xs.length (ints xs):=by
 refine⟨ints_len _,by omega,fun _=>⟨_,rfl,fun j hj=>?_⟩⟩
 have ha:(⟨g,0,none⟩:Addr).add j=⟨g,j,none⟩:=by unfold Addr.add;split<;>simp_all
 rw [ha,h.cell j hj]
 simp [ints,List.getD_eq_getElem?_getD,List.getElem?_map,List.getElem?_eq_getElem hj]
theorem capAt_turn {w w':World}{g s:Nat}(ht:Turn w w' s)(hne:g≠s):capAt w' g=capAt w g:=capAt_eq (ht.block g hne)
def SrcAt (w:World)(s g:Nat)(xs:List Nat)(pos:Nat):Prop:=Blk w s 226 #[.slice (some ⟨g,0,none⟩) xs.length (capAt w g),.int .i64 ((pos/8:Nat):Int),.int .i64 ((pos%8:Nat):Int)]/\RBlk w g xs
theorem SrcAt.move {w w':World}{s g:Nat}{xs:List Nat}{pos:Nat}(h:SrcAt w s g xs pos)(hs:w'.heap[s]? = w.heap[s]?)(hg:w'.heap[g]? = w.heap[g]?):SrcAt w' s g xs pos:=⟨by rw [capAt_eq hg];exact Eq.trans hs h.1,h.2.move hg⟩
theorem newSrc (w:World)(g:Nat)(n c:Nat):Calls Tryz.prog 105 #[.slice (some ⟨g,0,none⟩) n c] w fun e w'=>e=.returned (.pointer (some ⟨w.heap.size,0,none⟩))/\w'=w.alloc (.cells #[.slice (some ⟨g,0,none⟩) n c,.int .i64 0,.int .i64 0] 226):=by
 go_enter Tryz.func105,Tryz.ntmps105
 go_wp2
 go_ret
 exact⟨rfl,rfl⟩
theorem srcLeft (w:World)(s g pos:Nat)(xs:List Nat)(h:SrcAt w s g xs pos)(hp:pos<=8*xs.length)(hl:xs.length<=100000) :
  Calls Tryz.prog 106 #[.pointer (some ⟨s,0,none⟩)] w fun e w'=>e=.returned (.int .i64 ((8*xs.length-pos:Nat):Int))/\Drawn w w':=by
 obtain⟨h1,h2⟩:=h
 obtain⟨n,hn⟩:∃ n,xs.length=n:=⟨_,rfl⟩
 obtain⟨o,ho⟩:∃ o,pos%8=o:=⟨_,rfl⟩
 obtain⟨q,hq⟩:∃ q,pos/8=q:=⟨_,rfl⟩
 obtain⟨c,hcap⟩:∃ c,capAt w g=c:=⟨_,rfl⟩
 rw [hn,ho,hq,hcap] at h1
 have c0:w.cell? ⟨s,0,none⟩=some (.slice (some ⟨g,0,none⟩) n c):=h1.cell 0
 have c1:w.cell? ⟨s,1,none⟩=some (.int .i64 (q:Int)):=h1.cell 1
 have c2:w.cell? ⟨s,2,none⟩=some (.int .i64 (o:Int)):=h1.cell 2
 have hqn:q<=n:=by omega
 have e:8*((n:Int)-(q:Int))-(o:Int)=((8*xs.length-pos:Nat):Int):=by omega
 have hl2:n<=100000:=by omega
 have ho8:o<=7:=by omega
 obtain⟨r,hr⟩:∃ r:Nat,8*xs.length-pos=r:=⟨_,rfl⟩
 rw [hr] at e ⊢
 clear h1 h2 hn ho hq hr hp hl hcap
 go_enter Tryz.func106,Tryz.ntmps106
 go_wp2
 go_quiet (fail)
 go_wp2
 go_ret
 exact⟨by first | rfl | (rw [<- e];rfl),_,rfl⟩
theorem mask_look:∀ x:Fin 256,∀ b:Fin 8,∀ t:Fin 9,1<=t.val->t.val+b.val<=8->(x.val &&& (255/2 ^ (8-t.val)*2 ^ b.val%256))/2 ^ b.val=x.val/2 ^ b.val%2 ^ t.val:=by decide +kernel
theorem mask_at (x b t:Nat)(hx:x<256)(ht:1<=t)(h:t+b<=8):(x &&& (255/2 ^ (8-t)*2 ^ b%256))/2 ^ b=x/2 ^ b%2 ^ t:=mask_look ⟨x,hx⟩ ⟨b,by omega⟩ ⟨t,by omega⟩ ht h
theorem u8_and_nat (a b:Nat)(ha:a<256)(hb:b<256):Go.bits .and .u8 (a:Int) (b:Int)=((a &&& b:Nat):Int) :=
 (bits_nat .u8 8 (by decide) (fun n h0 h1=>by rw [IntKind.wrap_u8];omega) a b ha hb).1
theorem Turn.drawn {w w':World}{s:Nat}(h:Turn w w' s)(n:Nat):Turn w (w'.drewN n) s:=⟨h.os,h.tape,h.output,h.size,h.block⟩
theorem Blk.drawn {w:World}{g:Nat}{t:TypeId}{cs:Array Value}(h:Blk w g t cs)(n:Nat):Blk (w.drewN n) g t cs:=h.below (pw_below_drewN (Below.refl w.heap.size w) n) h.lt
theorem srcBlk_ne {w:World}{s g:Nat}{xs:List Nat}{cs:Array Value}(h:Blk w s 226 cs)(hU:RBlk w g xs):g≠s:=by obtain⟨cs,hc⟩:=hU.blk;exact blk_ne hc h (by decide)
theorem srcSet2 {w:World}{s:Nat}{v a b:Value}(h:Blk w s 226 #[v,a,b])(u:Value):Blk (w.setCell ⟨s,2,none⟩ u) s 226 #[v,a,u]:=blk_set h 2 u
theorem srcSet1 {w:World}{s:Nat}{v a b:Value}(h:Blk w s 226 #[v,a,b])(u:Value):Blk (w.setCell ⟨s,1,none⟩ u) s 226 #[v,u,b]:=blk_set h 1 u
set_option maxHeartbeats 1000000 in
set_option maxRecDepth 8000 in
theorem readBits (w:World)(s g pos k:Nat)(xs:List Nat)(h:SrcAt w s g xs pos)(hp:pos+k<=8*xs.length)(hl:xs.length<=100000)(hk:1<=k)(hk2:k<=32)(hx:AllLt 8 xs) :
  Calls Tryz.prog 107 #[.pointer (some ⟨s,0,none⟩),.int .i64 (k:Int)] w fun e w'=>e=.returned (.tuple #[.int .i64 (rdBits xs pos k:Int),.nilIface])/\SrcAt w' s g xs (pos+k)/\Turn w w' s:=by
 have kl:=srcLeft w s g pos xs h (by omega) hl
 obtain⟨h1,h2⟩:=h
 obtain⟨n,hn⟩:∃ n,xs.length=n:=⟨_,rfl⟩
 obtain⟨o,ho⟩:∃ o,pos%8=o:=⟨_,rfl⟩
 obtain⟨q,hq⟩:∃ q,pos/8=q:=⟨_,rfl⟩
 obtain⟨c,hcap⟩:∃ c,capAt w g=c:=⟨_,rfl⟩
 rw [hn,ho,hq,hcap] at h1
 obtain⟨r,hr⟩:∃ r:Nat,8*xs.length-pos=r:=⟨_,rfl⟩
 rw [hr] at kl
 have hkr:k<=r:=by omega
 have c0:w.cell? ⟨s,0,none⟩=some (.slice (some ⟨g,0,none⟩) n c):=h1.cell 0
 have c1:w.cell? ⟨s,1,none⟩=some (.int .i64 (q:Int)):=h1.cell 1
 have c2:w.cell? ⟨s,2,none⟩=some (.int .i64 (o:Int)):=h1.cell 2
 have f1:w.frozen? ⟨s,1,none⟩=false:=h1.frozen 1
 have f2:w.frozen? ⟨s,2,none⟩=false:=h1.frozen 2
 have hl2:n<=100000:=by omega
 have ho8:o<=7:=by omega
 have HX:=Aside0.mk hx
 have HS:=Aside0.mk h1
 have HU:=Aside0.mk h2
 have hpos:pos=8*q+o:=by omega
 have HPOS:=Aside0.mk hpos
 have HN:=Aside0.mk hn
 have HCAP:=Aside0.mk hcap
 have hpk:8*q+o+k<=8*n:=by omega
 clear h1 h2 hn ho hq hr hp hl hx hpos hcap
 go_enter Tryz.func107,Tryz.ntmps107
 by_cases ho0:o=0
 ·subst ho0
  go_wp2_with (go_at_call 106;refine kl.mono ?_;rintro e w' ⟨rfl,m1,rfl⟩)
  clear c0 c1 c2 f1 f2 kl
  have HSa:=Aside0.mk (show Blk (w.drewN m1) s 226 #[.slice (some ⟨g,0,none⟩) n c,.int .i64 (q:Int),.int .i64 0] from HS.out.drawn m1)
  have HTa:=Aside0.mk (show Turn w (w.drewN m1) s from (Turn.refl w s).drawn m1)
  have HTV:=Aside0.mk (show 0=rdBits xs pos 0 by rw [rdBits_zero])
  have HPA:=Aside0.mk (show 8*q+0+0=8*q by omega)
  obtain⟨wa,hwa⟩:∃ wa,wa=w.drewN m1:=⟨_,rfl⟩
  rw [<- hwa] at HSa HTa ⊢
  clear hwa
  go_loopw [1,6] (fun vk vr wr=>∃ j qj a R:Nat,vk=.int .i64 (j:Int)/\vr=.int .i64 (R:Int)/\j<=k/\a+j=k/\Aside0 (8*q+0+a=8*qj)/\Aside0 (R=rdBits xs pos a)/\Aside0 (Blk wr s 226 #[.slice (some ⟨g,0,none⟩) n c,.int .i64 (qj:Int),.int .i64 0])/\Aside0 (Turn w wr s)) (fun vk _ _=>(intOf vk).toNat)
  case atStart=>exact⟨k,q,0,0,rfl,rfl,Nat.le_refl _,by omega,HPA,HTV,HSa,HTa⟩
  case round=>
   clear HSa HTa
   obtain⟨j,qj,a,R,rfl,rfl,hj,haj,HPJ,HRV,HSJ,HTJ⟩:=hrel
   have e0:wr.cell? ⟨s,0,none⟩=some (.slice (some ⟨g,0,none⟩) n c):=HSJ.out.cell 0
   have e1:wr.cell? ⟨s,1,none⟩=some (.int .i64 (qj:Int)):=HSJ.out.cell 1
   have e2:wr.cell? ⟨s,2,none⟩=some (.int .i64 0):=HSJ.out.cell 2
   have g1:wr.frozen? ⟨s,1,none⟩=false:=HSJ.out.frozen 1
   have g2:wr.frozen? ⟨s,2,none⟩=false:=HSJ.out.frozen 2
   have hqj:1<=j->qj<n:=by intro h;have:=HPJ.out;omega
   obtain⟨x,hx⟩:∃ x,xs.getD qj 0=x:=⟨_,rfl⟩
   have hx8:x<256:=by rw [<- hx];exact getD_lt HX.out qj
   have dx:1<=j->wr.cell? ⟨g,qj,none⟩=some (.int .u8 (x:Int)):=by
    intro h
    have:=(HU.out.turn HTJ.out (srcBlk_ne HS.out HU.out)).cell qj (by rw [HN.out];exact hqj h)
    rw [hx] at this
    exact this
   have hR32:R<2 ^ a:=by rw [HRV.out];exact rdBits_lt _ _ _
   have HXQ:=Aside0.mk hx
   clear hx
   by_cases hj8:8<=j
   ·have dx:=dx (by omega)
    have hqn:=hqj (by omega)
    have hR24:R<16777216:=Nat.lt_of_lt_of_le hR32 (Nat.le_trans (Nat.pow_le_pow_right (by decide) (show a<=24 by omega)) (by decide))
    have ra:=u8_and255 x hx8
    obtain⟨R2,hR2⟩:∃ R2,R*256+x=R2:=⟨_,rfl⟩
    have hor:Go.bits .or .i64 ((R:Int)*256) (x:Int)=(R2:Int):=by
     have h1:=i64_or_nat (R*256) x (by omega) (by omega)
     have h2:=Nat.two_pow_add_eq_or_of_lt (i:=8) (b:=x) hx8 R
     rw [show ((R*256:Nat):Int)=(R:Int)*256 by omega] at h1
     rw [h1,show R*256=2 ^ 8*R by omega,<- h2,<- hR2]
     congr 1
     omega
    have HRN:=Aside0.mk (show R2=rdBits xs pos (a+8) by
     rw [rdBits_split xs pos a 8 (by rw [HPOS.out,HN.out];omega),HPOS.out,HPJ.out]
     have:=rdBits_byte xs qj 0 8 (by rw [HN.out];exact hqn) (by omega) (by rw [HXQ.out];exact hx8)
     rw [Nat.add_zero,HXQ.out] at this
     rw [this,<- hR2,HRV.out,HPOS.out,Nat.sub_zero,Nat.sub_self,Nat.pow_zero,Nat.div_one,Nat.mod_eq_of_lt hx8])
    have HSN:=fun m=>Aside0.mk (srcSet1 (HSJ.out.drawn m) (.int .i64 ((qj:Int)+1)))
    have HTN:=fun m=>Aside0.mk ((HTJ.out.drawn m).trans (Turn.set _ s 1 (.int .i64 ((qj:Int)+1))))
    clear hR32 hR2 hqj
    go_wp2
    go_quiet (fail)
    go_wp2
    go_roundw
    case rel=>exact⟨j-8,qj+1,a+8,R2,by go_num,rfl,by omega,by omega,⟨by have:=HPJ.out;omega⟩,HRN,⟨(HSN _).out⟩,⟨(HTN _).out⟩⟩
    case measure=>simp [intOf];omega
   ·by_cases hj0:j=0
    ·subst hj0
     have HRE:=Aside0.mk (show R=rdBits xs pos k by rw [HRV.out,<- haj,Nat.add_zero])
     clear dx hqj hR32
     go_wp2
     go_ret2
     refine⟨by rw [<- HRE.out];rfl,⟨?_,HU.out.turn HTJ.out (srcBlk_ne HS.out HU.out)⟩,HTJ.out⟩
     have:=HPJ.out
     rw [HN.out,(capAt_turn HTJ.out (srcBlk_ne HS.out HU.out)).trans HCAP.out,HPOS.out,show (8*q+0+k)/8=qj by omega,show (8*q+0+k)%8=0 by omega]
     exact HSJ.out
    ·have dx:=dx (by omega)
     have hqn:=hqj (by omega)
     have hj7:j<=7:=by omega
     obtain⟨b2,hb2⟩:∃ b2,8-j=b2:=⟨_,rfl⟩
     obtain⟨M2,hM2⟩:∃ M2:Nat,255/2 ^ b2*2 ^ b2%256=M2:=⟨_,rfl⟩
     have hMi2:((255:Int)/2 ^ b2*2 ^ b2%256)=(M2:Int):=by rw [<- hM2];simp
     have hbi2:(8:Int)-(j:Int)=(b2:Int):=by omega
     go_wp2
     try rw [hb2]
     try rw [hMi2]
     try rw [hbi2]
     have hM28:M2<256:=by rw [<- hM2];exact Nat.mod_lt _ (by decide)
     have ha2:=u8_and_nat x M2 hx8 hM28
     obtain⟨y2,hy2⟩:∃ y2,x &&& M2=y2:=⟨_,rfl⟩
     have hy28:y2<256:=by rw [<- hy2];exact Nat.lt_of_le_of_lt Nat.and_le_left hx8
     rw [hy2] at ha2
     obtain⟨T2,hT2⟩:∃ T2:Nat,y2/2 ^ b2=T2:=⟨_,rfl⟩
     have hTi2:(y2:Int)/2 ^ b2=(T2:Int):=by rw [<- hT2];simp
     have hTm2:(y2:Int)/2 ^ min b2 8=(T2:Int):=by rw [Nat.min_eq_left (show b2<=8 by omega)];exact hTi2
     have hTv2:T2=x/2 ^ b2%2 ^ j:=by
      have:=mask_at x b2 j hx8 (by omega) (by omega)
      rw [hb2,hM2,hy2,hT2] at this
      exact this
     have hT2j:T2<2 ^ j:=by rw [hTv2];exact Nat.mod_lt _ (Nat.two_pow_pos j)
     have hT28:T2<256:=Nat.lt_of_lt_of_le hT2j (Nat.le_trans (Nat.pow_le_pow_right (by decide) (show j<=8 by omega)) (by decide))
     obtain⟨P,hP⟩:∃ P:Nat,R*2 ^ j=P:=⟨_,rfl⟩
     have hPi:(R:Int)*2 ^ j=(P:Int):=by rw [<- hP];simp
     have hP32:P<4294967296:=by
      have h1:R*2 ^ j<2 ^ a*2 ^ j:=Nat.mul_lt_mul_of_pos_right hR32 (Nat.two_pow_pos j)
      rw [<- Nat.pow_add,hP] at h1
      exact Nat.lt_of_lt_of_le h1 (Nat.le_trans (Nat.pow_le_pow_right (by decide) (show a+j<=32 by omega)) (by decide))
     obtain⟨V,hV⟩:∃ V,P+T2=V:=⟨_,rfl⟩
     have hor2:Go.bits .or .i64 (P:Int) (T2:Int)=(V:Int):=by
      have h1:=i64_or_nat P T2 (by omega) (by omega)
      have h2:=Nat.two_pow_add_eq_or_of_lt (i:=j) (b:=T2) hT2j R
      rw [Nat.mul_comm,hP,hV] at h2
      rw [h1,<- h2]
     have HVR:=Aside0.mk (show V=rdBits xs pos k by
      rw [<- haj,rdBits_split xs pos a j (by rw [HPOS.out,HN.out];omega),HPOS.out,HPJ.out]
      have:=rdBits_byte xs qj 0 j (by rw [HN.out];exact hqn) (by omega) (by rw [HXQ.out];exact hx8)
      rw [Nat.add_zero,HXQ.out,Nat.sub_zero,hb2,<- hTv2] at this
      rw [this,<- hV,<- hP,HRV.out,HPOS.out])
     clear hb2 hM2 hMi2 hbi2 hy2 hT2 hTv2 hT2j hP hV hR32 hqj
     go_quiet (fail)
     go_wp2
     go_ret2
     have hB:=srcSet2 (HSJ.out.drawn nq) (.int .i64 (j:Int))
     have hT:=(HTJ.out.drawn nq).trans (Turn.set _ s 2 (.int .i64 (j:Int)))
     refine⟨by rw [<- HVR.out];rfl,⟨?_,HU.out.turn hT (srcBlk_ne HS.out HU.out)⟩,hT⟩
     have:=HPJ.out
     rw [HN.out,(capAt_turn hT (srcBlk_ne HS.out HU.out)).trans HCAP.out,HPOS.out,show (8*q+0+k)/8=qj by omega,show (8*q+0+k)%8=j by omega]
     exact hB
 ·obtain⟨x,hx⟩:∃ x,xs.getD q 0=x:=⟨_,rfl⟩
  have hqn:q<n:=by omega
  have d0:w.cell? ⟨g,q,none⟩=some (.int .u8 (x:Int)):=by
   have:=HU.out.cell q (by rw [HN.out];exact hqn)
   rw [hx] at this
   exact this
  have ho1:1<=o:=by omega
  by_cases hkl:k<8-o
  ·go_wp2_with (go_at_call 106;refine kl.mono ?_;rintro e w' ⟨rfl,m1,rfl⟩)
   obtain⟨b,hb⟩:∃ b,8-o-k=b:=⟨_,rfl⟩
   obtain⟨M,hM⟩:∃ M:Nat,255/2 ^ (8-k)*2 ^ b%256=M:=⟨_,rfl⟩
   have hMi:((255:Int)/2 ^ (8-k)*2 ^ b%256)=(M:Int):=by rw [<- hM];simp
   have hbi:(8:Int)-(o:Int)-(k:Int)=(b:Int):=by omega
   rw [hb,hMi,hbi]
   have hx8:x<256:=by rw [<- hx];exact getD_lt HX.out q
   have hM8:M<256:=by rw [<- hM];exact Nat.mod_lt _ (by decide)
   have ha:=u8_and_nat x M hx8 hM8
   obtain⟨y,hy⟩:∃ y,x &&& M=y:=⟨_,rfl⟩
   have hy8:y<256:=by rw [<- hy];exact Nat.lt_of_le_of_lt Nat.and_le_left hx8
   rw [hy] at ha
   obtain⟨T,hT⟩:∃ T:Nat,y/2 ^ b=T:=⟨_,rfl⟩
   have hTi:(y:Int)/2 ^ b=(T:Int):=by rw [<- hT];simp
   have hTv:T=rdBits xs pos k:=by
    rw [HPOS.out,rdBits_byte xs q o k (by rw [HN.out];exact hqn) (by omega) (by rw [hx];exact hx8),hx,<- hT,<- hy,<- hM,hb]
    exact mask_at x b k hx8 hk (by omega)
   have HTV:=Aside0.mk hTv
   have hb7:b<=7:=by omega
   clear hb hM hMi hbi hx hy hT hTv
   go_quiet (fail)
   go_wp2
   go_ret2
   have hB:Blk ((w.drewN (m1+nq)).setCell ⟨s,2,none⟩ (.int .i64 ((o:Int)+(k:Int)))) s 226 #[.slice (some ⟨g,0,none⟩) n c,.int .i64 (q:Int),.int .i64 ((o:Int)+(k:Int))]:=srcSet2 (HS.out.drawn _) _
   have hT:Turn w ((w.drewN (m1+nq)).setCell ⟨s,2,none⟩ (.int .i64 ((o:Int)+(k:Int)))) s:=((Turn.refl w s).drawn _).trans (Turn.set _ _ _ _)
   refine⟨by rw [<- HTV.out];rfl,⟨?_,HU.out.turn hT (srcBlk_ne HS.out HU.out)⟩,hT⟩
   rw [HN.out,(capAt_turn hT (srcBlk_ne HS.out HU.out)).trans HCAP.out,HPOS.out,show (8*q+o+k)/8=q by omega,show (8*q+o+k)%8=o+k by omega,show ((o+k:Nat):Int)=(o:Int)+(k:Int) by omega]
   exact hB
  ·go_wp2_with (go_at_call 106;refine kl.mono ?_;rintro e w' ⟨rfl,m1,rfl⟩)
   obtain⟨M,hM⟩:∃ M:Nat,255/2 ^ (8-(8-o))%256=M:=⟨_,rfl⟩
   have hMi:((255:Int)/2 ^ (8-(8-o))%256)=(M:Int):=by rw [<- hM];simp
   rw [hMi]
   have hx8:x<256:=by rw [<- hx];exact getD_lt HX.out q
   have hM8:M<256:=by rw [<- hM];exact Nat.mod_lt _ (by decide)
   have ha:=u8_and_nat x M hx8 hM8
   obtain⟨T,hT⟩:∃ T,x &&& M=T:=⟨_,rfl⟩
   have hT8:T<256:=by rw [<- hT];exact Nat.lt_of_le_of_lt Nat.and_le_left hx8
   rw [hT] at ha
   obtain⟨ka,hka⟩:∃ ka,8-o=ka:=⟨_,rfl⟩
   have hTv:T=rdBits xs pos ka:=by
    have:=mask_at x 0 (8-o) hx8 (by omega) (by omega)
    rw [Nat.pow_zero,Nat.mul_one,Nat.div_one,hM,hT] at this
    rw [HPOS.out,rdBits_byte xs q o ka (by rw [HN.out];exact hqn) (by omega) (by rw [hx];exact hx8),hx,this,hka,Nat.sub_self,Nat.pow_zero]
   have HTV:=Aside0.mk hTv
   obtain⟨kr,hkr2⟩:∃ kr,k-ka=kr:=⟨_,rfl⟩
   have hkri:(k:Int)-(8-(o:Int))=(kr:Int):=by omega
   have h8:(o:Int)+(8-(o:Int))=8:=by omega
   obtain⟨qa,hqa⟩:∃ qa,q+1=qa:=⟨_,rfl⟩
   have HPA:=Aside0.mk (show 8*q+o+ka=8*qa by omega)
   clear hM hMi hx hT hTv
   by_cases hkr0:kr=0
   ·subst hkr0
    go_quiet (fail)
    go_wp2
    go_ret2
    have hka2:ka=k:=by omega
    subst hka2
    have hB:=srcSet1 (srcSet2 (srcSet2 (HS.out.drawn (m1+nq)) (.int .i64 8)) (.int .i64 0)) (.int .i64 ((q:Int)+1))
    have hT:=((((Turn.refl w s).drawn (m1+nq)).trans (Turn.set _ s 2 (.int .i64 8))).trans (Turn.set _ s 2 (.int .i64 0))).trans (Turn.set _ s 1 (.int .i64 ((q:Int)+1)))
    refine⟨by rw [<- HTV.out];rfl,⟨?_,HU.out.turn hT (srcBlk_ne HS.out HU.out)⟩,hT⟩
    have:=HPA.out
    rw [HN.out,(capAt_turn hT (srcBlk_ne HS.out HU.out)).trans HCAP.out,HPOS.out,show (8*q+o+ka)/8=q+1 by omega,show (8*q+o+ka)%8=0 by omega]
    exact hB
   ·go_quiet (fail)
    go_wp2
    have HSa:=Aside0.mk (srcSet1 (srcSet2 (srcSet2 (HS.out.drawn (m1+nq)) (.int .i64 8)) (.int .i64 0)) (.int .i64 ((q:Int)+1)))
    have HTa:=Aside0.mk (((((Turn.refl w s).drawn (m1+nq)).trans (Turn.set _ s 2 (.int .i64 8))).trans (Turn.set _ s 2 (.int .i64 0))).trans (Turn.set _ s 1 (.int .i64 ((q:Int)+1))))
    clear c0 c1 c2 f1 f2 kl d0
    rw [show ((q:Int)+1)=(qa:Int) by omega] at HSa HTa ⊢
    obtain⟨wa,hwa⟩:∃ wa,wa=(((w.drewN (m1+nq)).setCell ⟨s,2,none⟩ (.int .i64 8)).setCell ⟨s,2,none⟩ (.int .i64 0)).setCell ⟨s,1,none⟩ (.int .i64 (qa:Int)):=⟨_,rfl⟩
    rw [<- hwa] at HSa HTa ⊢
    clear hwa
    go_loopw [1,6] (fun vk vr wr=>∃ j qj a R:Nat,vk=.int .i64 (j:Int)/\vr=.int .i64 (R:Int)/\j<=kr/\a+j=k/\Aside0 (8*q+o+a=8*qj)/\Aside0 (R=rdBits xs pos a)/\Aside0 (Blk wr s 226 #[.slice (some ⟨g,0,none⟩) n c,.int .i64 (qj:Int),.int .i64 0])/\Aside0 (Turn w wr s)) (fun vk _ _=>(intOf vk).toNat)
    case atStart=>exact⟨kr,qa,ka,T,rfl,rfl,Nat.le_refl _,by omega,HPA,HTV,HSa,HTa⟩
    case round=>
     clear HSa HTa
     obtain⟨j,qj,a,R,rfl,rfl,hj,haj,HPJ,HRV,HSJ,HTJ⟩:=hrel
     have e0:wr.cell? ⟨s,0,none⟩=some (.slice (some ⟨g,0,none⟩) n c):=HSJ.out.cell 0
     have e1:wr.cell? ⟨s,1,none⟩=some (.int .i64 (qj:Int)):=HSJ.out.cell 1
     have e2:wr.cell? ⟨s,2,none⟩=some (.int .i64 0):=HSJ.out.cell 2
     have g1:wr.frozen? ⟨s,1,none⟩=false:=HSJ.out.frozen 1
     have g2:wr.frozen? ⟨s,2,none⟩=false:=HSJ.out.frozen 2
     have hqj:1<=j->qj<n:=by intro h;have:=HPJ.out;omega
     obtain⟨x,hx⟩:∃ x,xs.getD qj 0=x:=⟨_,rfl⟩
     have hx8:x<256:=by rw [<- hx];exact getD_lt HX.out qj
     have dx:1<=j->wr.cell? ⟨g,qj,none⟩=some (.int .u8 (x:Int)):=by
      intro h
      have:=(HU.out.turn HTJ.out (srcBlk_ne HS.out HU.out)).cell qj (by rw [HN.out];exact hqj h)
      rw [hx] at this
      exact this
     have hR32:R<2 ^ a:=by rw [HRV.out];exact rdBits_lt _ _ _
     have HXQ:=Aside0.mk hx
     clear hx
     by_cases hj8:8<=j
     ·have dx:=dx (by omega)
      have hqn:=hqj (by omega)
      have hR24:R<16777216:=Nat.lt_of_lt_of_le hR32 (Nat.le_trans (Nat.pow_le_pow_right (by decide) (show a<=24 by omega)) (by decide))
      have ra:=u8_and255 x hx8
      obtain⟨R2,hR2⟩:∃ R2,R*256+x=R2:=⟨_,rfl⟩
      have hor:Go.bits .or .i64 ((R:Int)*256) (x:Int)=(R2:Int):=by
       have h1:=i64_or_nat (R*256) x (by omega) (by omega)
       have h2:=Nat.two_pow_add_eq_or_of_lt (i:=8) (b:=x) hx8 R
       rw [show ((R*256:Nat):Int)=(R:Int)*256 by omega] at h1
       rw [h1,show R*256=2 ^ 8*R by omega,<- h2,<- hR2]
       congr 1
       omega
      have HRN:=Aside0.mk (show R2=rdBits xs pos (a+8) by
       rw [rdBits_split xs pos a 8 (by rw [HPOS.out,HN.out];omega),HPOS.out,HPJ.out]
       have:=rdBits_byte xs qj 0 8 (by rw [HN.out];exact hqn) (by omega) (by rw [HXQ.out];exact hx8)
       rw [Nat.add_zero,HXQ.out] at this
       rw [this,<- hR2,HRV.out,HPOS.out,Nat.sub_zero,Nat.sub_self,Nat.pow_zero,Nat.div_one,Nat.mod_eq_of_lt hx8])
      have HSN:=fun m=>Aside0.mk (srcSet1 (HSJ.out.drawn m) (.int .i64 ((qj:Int)+1)))
      have HTN:=fun m=>Aside0.mk ((HTJ.out.drawn m).trans (Turn.set _ s 1 (.int .i64 ((qj:Int)+1))))
      clear hR32 hR2 hqj
      go_wp2
      go_quiet (fail)
      go_wp2
      go_roundw
      case rel=>exact⟨j-8,qj+1,a+8,R2,by go_num,rfl,by omega,by omega,⟨by have:=HPJ.out;omega⟩,HRN,⟨(HSN _).out⟩,⟨(HTN _).out⟩⟩
      case measure=>simp [intOf];omega
     ·by_cases hj0:j=0
      ·subst hj0
       have HRE:=Aside0.mk (show R=rdBits xs pos k by rw [HRV.out,<- haj,Nat.add_zero])
       clear dx hqj hR32
       go_wp2
       go_ret2
       refine⟨by rw [<- HRE.out];rfl,⟨?_,HU.out.turn HTJ.out (srcBlk_ne HS.out HU.out)⟩,HTJ.out⟩
       have:=HPJ.out
       rw [HN.out,(capAt_turn HTJ.out (srcBlk_ne HS.out HU.out)).trans HCAP.out,HPOS.out,show (8*q+o+k)/8=qj by omega,show (8*q+o+k)%8=0 by omega]
       exact HSJ.out
      ·have dx:=dx (by omega)
       have hqn:=hqj (by omega)
       have hj7:j<=7:=by omega
       obtain⟨b2,hb2⟩:∃ b2,8-j=b2:=⟨_,rfl⟩
       obtain⟨M2,hM2⟩:∃ M2:Nat,255/2 ^ b2*2 ^ b2%256=M2:=⟨_,rfl⟩
       have hMi2:((255:Int)/2 ^ b2*2 ^ b2%256)=(M2:Int):=by rw [<- hM2];simp
       have hbi2:(8:Int)-(j:Int)=(b2:Int):=by omega
       go_wp2
       try rw [hb2]
       try rw [hMi2]
       try rw [hbi2]
       have hM28:M2<256:=by rw [<- hM2];exact Nat.mod_lt _ (by decide)
       have ha2:=u8_and_nat x M2 hx8 hM28
       obtain⟨y2,hy2⟩:∃ y2,x &&& M2=y2:=⟨_,rfl⟩
       have hy28:y2<256:=by rw [<- hy2];exact Nat.lt_of_le_of_lt Nat.and_le_left hx8
       rw [hy2] at ha2
       obtain⟨T2,hT2⟩:∃ T2:Nat,y2/2 ^ b2=T2:=⟨_,rfl⟩
       have hTi2:(y2:Int)/2 ^ b2=(T2:Int):=by rw [<- hT2];simp
       have hTm2:(y2:Int)/2 ^ min b2 8=(T2:Int):=by rw [Nat.min_eq_left (show b2<=8 by omega)];exact hTi2
       have hTv2:T2=x/2 ^ b2%2 ^ j:=by
        have:=mask_at x b2 j hx8 (by omega) (by omega)
        rw [hb2,hM2,hy2,hT2] at this
        exact this
       have hT2j:T2<2 ^ j:=by rw [hTv2];exact Nat.mod_lt _ (Nat.two_pow_pos j)
       have hT28:T2<256:=Nat.lt_of_lt_of_le hT2j (Nat.le_trans (Nat.pow_le_pow_right (by decide) (show j<=8 by omega)) (by decide))
       obtain⟨P,hP⟩:∃ P:Nat,R*2 ^ j=P:=⟨_,rfl⟩
       have hPi:(R:Int)*2 ^ j=(P:Int):=by rw [<- hP];simp
       have hP32:P<4294967296:=by
        have h1:R*2 ^ j<2 ^ a*2 ^ j:=Nat.mul_lt_mul_of_pos_right hR32 (Nat.two_pow_pos j)
        rw [<- Nat.pow_add,hP] at h1
        exact Nat.lt_of_lt_of_le h1 (Nat.le_trans (Nat.pow_le_pow_right (by decide) (show a+j<=32 by omega)) (by decide))
       obtain⟨V,hV⟩:∃ V,P+T2=V:=⟨_,rfl⟩
       have hor2:Go.bits .or .i64 (P:Int) (T2:Int)=(V:Int):=by
        have h1:=i64_or_nat P T2 (by omega) (by omega)
        have h2:=Nat.two_pow_add_eq_or_of_lt (i:=j) (b:=T2) hT2j R
        rw [Nat.mul_comm,hP,hV] at h2
        rw [h1,<- h2]
       have HVR:=Aside0.mk (show V=rdBits xs pos k by
        rw [<- haj,rdBits_split xs pos a j (by rw [HPOS.out,HN.out];omega),HPOS.out,HPJ.out]
        have:=rdBits_byte xs qj 0 j (by rw [HN.out];exact hqn) (by omega) (by rw [HXQ.out];exact hx8)
        rw [Nat.add_zero,HXQ.out,Nat.sub_zero,hb2,<- hTv2] at this
        rw [this,<- hV,<- hP,HRV.out,HPOS.out])
       clear hb2 hM2 hMi2 hbi2 hy2 hT2 hTv2 hT2j hP hV hR32 hqj
       go_quiet (fail)
       go_wp2
       go_ret2
       have hB:=srcSet2 (HSJ.out.drawn nq) (.int .i64 (j:Int))
       have hT:=(HTJ.out.drawn nq).trans (Turn.set _ s 2 (.int .i64 (j:Int)))
       refine⟨by rw [<- HVR.out];rfl,⟨?_,HU.out.turn hT (srcBlk_ne HS.out HU.out)⟩,hT⟩
       have:=HPJ.out
       rw [HN.out,(capAt_turn hT (srcBlk_ne HS.out HU.out)).trans HCAP.out,HPOS.out,show (8*q+o+k)/8=qj by omega,show (8*q+o+k)%8=j by omega]
       exact hB
set_option maxRecDepth 8000 in
theorem readBits_bad (w:World)(s g pos k:Nat)(xs:List Nat)(h:SrcAt w s g xs pos)(hp:pos<=8*xs.length)(hs:8*xs.length<pos+k)(hl:xs.length<=100000)(hk:1<=k)(hk2:k<=32) :
  Calls Tryz.prog 107 #[.pointer (some ⟨s,0,none⟩),.int .i64 (k:Int)] w fun e w'=>(∃ x,e=.returned (.tuple #[.int .i64 0,.iface 216 x]))/\Below w.heap.size w w':=by
 have kl:=srcLeft w s g pos xs h hp hl
 obtain⟨r,hr⟩:∃ r:Nat,8*xs.length-pos=r:=⟨_,rfl⟩
 rw [hr] at kl
 have hrk:r<k:=by omega
 clear h hp hs hl hr
 go_enter Tryz.func107,Tryz.ntmps107
 go_wp2_with (first | (go_at_call 106;refine kl.mono ?_;rintro e w' ⟨rfl,m1,rfl⟩) | (go_at_call 103;refine (errNew _ _).mono ?_;rintro e w' ⟨rfl,rfl⟩))
 go_ret2
 exact⟨⟨_,rfl⟩,below_alloc (pw_below_drewN (Below.refl w.heap.size w) m1) _⟩
theorem modeFor (w:World)(n:Nat)(h:n=0\/n=1\/n=2\/n=3\/n=4\/n=5\/n=7\/n=8\/n=9):Calls Tryz.prog 108 #[.int .i64 (n:Int)] w fun e w'=>e=.returned (.tuple #[.int .i64 (n:Int),.nilIface])/\w'=w:=by
 rcases h with rfl | rfl | rfl | rfl | rfl | rfl | rfl | rfl | rfl
 all_goals
  go_enter Tryz.func108,Tryz.ntmps108
  go_wp2
  go_ret2
  exact⟨rfl,rfl⟩
theorem SrcAt.grown {w w1:World}{s g pos base n:Nat}{bs:List Nat}{v:Value}{hs:List Value}(h:SrcAt w s g bs pos)(hown:w.ownsRow base 5 1 v n hs)(hg:g<base)(hgr:w.grownBy w1 v.ownBlock):SrcAt w1 s g bs pos :=
 h.move (hgr.block s h.1.lt (own_ne hown h.1 (by decide))) (hgr.block g h.2.lt (fun hc=>by have:=own_base hown g hc.symm;omega))
theorem SrcAt.alloc {w:World}{s g pos:Nat}{bs:List Nat}(h:SrcAt w s g bs pos)(o:Obj):SrcAt (w.alloc o) s g bs pos:=h.move (Below.heap_alloc w o s h.1.lt) (Below.heap_alloc w o g h.2.lt)
theorem own_turn {w w':World}{s base n:Nat}{v:Value}{hs:List Value}{cs:Array Value}(hown:w.ownsRow base 5 1 v n hs)(h:Blk w s 226 cs)(ht:Turn w w' s):w'.ownsRow base 5 1 v n hs :=
 own_move hown fun k hk=>ht.block k (by rintro rfl;exact own_ne hown h (by decide) hk.symm)
structure Grow (w w':World)(s:Nat)(v v':Value):Prop where
 os:w'.os=w.os
 tape:w'.tape=w.tape
 output:w'.output=w.output
 size:w.heap.size<=w'.heap.size
 block:∀ k,k<w.heap.size->k≠s->some k≠v.ownBlock->w'.heap[k]? = w.heap[k]?
 at_:v'.ownBlock=v.ownBlock\/∃ b,v'.ownBlock=some b/\w.heap.size<=b
theorem Grow.refl (w:World)(s:Nat)(v:Value):Grow w w s v v:=⟨rfl,rfl,rfl,Nat.le_refl _,fun _ _ _ _=>rfl,.inl rfl⟩
theorem Grow.turn {w x y:World}{s:Nat}{v v':Value}(h:Grow w x s v v')(k:Turn x y s):Grow w y s v v' :=
 ⟨k.os.trans h.os,k.tape.trans h.tape,k.output.trans h.output,by rw [k.size];exact h.size,fun i hi h1 h2=>(k.block i h1).trans (h.block i hi h1 h2),h.at_⟩
theorem Grow.alloc {w x:World}{s:Nat}{v v':Value}(h:Grow w x s v v')(o:Obj):Grow w (x.alloc o) s v v' :=
 ⟨h.os,h.tape,h.output,by simp;exact Nat.le_succ_of_le h.size,fun i hi h1 h2=>(Below.heap_alloc x o i (Nat.lt_of_lt_of_le hi h.size)).trans (h.block i hi h1 h2),h.at_⟩
theorem Grow.app {w x y:World}{s:Nat}{v v' v2:Value}(h:Grow w x s v v')(k:x.grownBy y v'.ownBlock)(hat:v2.ownBlock=v'.ownBlock\/∃ b,v2.ownBlock=some b/\x.heap.size<=b):Grow w y s v v2:=by
 have hs:=h.size
 refine⟨k.os.trans h.os,k.tape.trans h.tape,k.output.trans h.output,Nat.le_trans hs k.size,fun i hi h1 h2=>?_,?_⟩
 ·refine (k.block i (by omega) ?_).trans (h.block i hi h1 h2)
  rcases h.at_ with e | ⟨b,e,hb⟩
  ·rw [e];exact h2
  ·rw [e];intro hc;injection hc with hc;omega
 ·rcases hat with e | ⟨b,e,hb⟩
  ·rw [e];exact h.at_
  ·exact .inr ⟨b,e,by omega⟩
theorem Grow.trans {w x y:World}{s:Nat}{v v' v2:Value}(h:Grow w x s v v')(k:Grow x y s v' v2):Grow w y s v v2:=by
 have hs:=h.size
 refine⟨k.os.trans h.os,k.tape.trans h.tape,k.output.trans h.output,Nat.le_trans hs k.size,fun i hi h1 h2=>?_,?_⟩
 ·refine (k.block i (by omega) h1 ?_).trans (h.block i hi h1 h2)
  rcases h.at_ with e | ⟨b,e,hb⟩
  ·rw [e];exact h2
  ·rw [e];intro hc;injection hc with hc;omega
 ·rcases k.at_ with e | ⟨b,e,hb⟩
  ·rw [e];exact h.at_
  ·exact .inr ⟨b,e,by omega⟩
theorem Grow.blk {w w':World}{s q:Nat}{v v':Value}{t:TypeId}{cs:Array Value}(h:Grow w w' s v v')(hq:Blk w q t cs)(h1:q≠s)(h2:some q≠v.ownBlock):Blk w' q t cs/\some q≠v'.ownBlock:=by
 refine⟨(h.block q hq.lt h1 h2).trans hq,?_⟩
 rcases h.at_ with e | ⟨b,e,hb⟩
 ·rw [e];exact h2
 ·rw [e];intro hc;injection hc with hc;have:=hq.lt;omega
theorem own_blk {w:World}{base n size:Nat}{e:TypeId}{v:Value}{xs:List Value}(h:w.ownsRow base e size v n xs)(k:Nat)(hk:v.ownBlock=some k):∃ cs,Blk w k e cs:=by
 rcases h.2 with⟨rfl,_⟩ | ⟨g,cap,cur,rfl,hb,hh,_⟩
 ·simp [Value.ownBlock] at hk
 ·have:g=k:=by simpa [Value.ownBlock] using hk
  subst this
  exact⟨cur,hh⟩
theorem own_apart {w:World}{base n size n' size' base':Nat}{e e':TypeId}{v v':Value}{xs xs':List Value}(h:w.ownsRow base e size v n xs)(h':w.ownsRow base' e' size' v' n' xs')(hne:e≠e')(k:Nat)(hk:v.ownBlock=some k):some k≠v'.ownBlock:=by
 obtain⟨cs,hb⟩:=own_blk h k hk
 exact own_ne h' hb (Ne.symm hne)
def segCells (qs:List Nat)(segs:List (List Int)):List Value:=List.zipWith (fun q t=>.slice (some ⟨q,0,none⟩) t.length t.length) qs segs
structure SegsAt (w:World)(base:Nat)(vs v:Value)(qs:List Nat)(segs:List (List Int)):Prop where
 len:qs.length=segs.length
 own:w.ownsRow base 26 1 vs segs.length (segCells qs segs)
 blk:∀ i,i<segs.length->base<=qs.getD i 0/\Blk w (qs.getD i 0) 5 (nums .u8 (segs.getD i [])).toArray/\some (qs.getD i 0)≠v.ownBlock
theorem SegsAt.grow {w w':World}{base s n:Nat}{vs v v':Value}{qs:List Nat}{segs:List (List Int)}{cs:Array Value}{xs:List Value}(h:SegsAt w base vs v qs segs)(hv:w.ownsRow base 5 1 v n xs)(hs:Blk w s 226 cs)(k:Grow w w' s v v'):SegsAt w' base vs v' qs segs:=by
 refine⟨h.len,own_move h.own fun q hq=>?_,fun i hi=>?_⟩
 ·obtain⟨cq,hb⟩:=own_blk h.own q hq
  exact k.block q hb.lt (blk_ne hb hs (by decide)) (own_apart h.own hv (by decide) q hq)
 ·obtain⟨h1,h2,h3⟩:=h.blk i hi
  obtain⟨h4,h5⟩:=k.blk h2 (blk_ne h2 hs (by decide)) h3
  exact⟨h1,h4,h5⟩
def ByteDone (w0:World)(base s g:Nat)(bs:List Nat)(pos:Nat)(ys:List Int)(segs:List (List Int))(e:Ending)(w':World):Prop :=
 ∃ v' vs' qs',e=.returned (.tuple #[v',vs',.nilIface])/\w'.ownsRow base 5 1 v' ys.length (nums .u8 ys)/\SegsAt w' base vs' v' qs' segs/\SrcAt w' s g bs pos/\Below base w0 w'/\base<=w'.heap.size
theorem byteSeg_len (bs:List Nat)(pos n:Nat):(byteSeg bs pos n).length=n:=by simp [byteSeg]
def byTo (bs:List Nat)(pos n i:Nat):List Int:=byteSeg bs pos i++List.replicate (n-i) 0
theorem byTo_len (bs:List Nat)(pos n i:Nat)(h:i<=n):(byTo bs pos n i).length=n:=by simp [byTo,byteSeg];omega
theorem byTo_set (bs:List Nat)(pos n i:Nat)(h:i<n):(byTo bs pos n i).set i (rdBits bs (pos+8*i) 8:Int)=byTo bs pos n (i+1):=by
 unfold byTo
 have hl:=byteSeg_len bs pos i
 rw [List.set_append_right _ _ (by omega),hl,Nat.sub_self,show n-i=(n-(i+1))+1 by omega,List.replicate_succ,List.set_cons_zero]
 simp [byteSeg,List.range_succ]
theorem byTo_all (bs:List Nat)(pos n:Nat):byTo bs pos n n=byteSeg bs pos n:=by simp [byTo]
theorem byTo_zero (bs:List Nat)(pos n:Nat):byTo bs pos n 0=List.replicate n 0:=by simp [byTo,byteSeg]
theorem Upd.turn {w x y:World}{s:Nat}(h:Upd w x s)(k:Turn x y s):Upd w y s:=⟨k.os.trans h.os,k.tape.trans h.tape,k.output.trans h.output,by rw [k.size];exact h.size,fun i hi h1=>(k.block i h1).trans (h.block i hi h1)⟩
theorem Upd.turn_new {w x y:World}{s q:Nat}(h:Upd w x s)(k:Turn x y q)(hq:w.heap.size<=q):Upd w y s:=⟨k.os.trans h.os,k.tape.trans h.tape,k.output.trans h.output,by rw [k.size];exact h.size,fun i hi h1=>(k.block i (by omega)).trans (h.block i hi h1)⟩
theorem segCells_snoc (qs:List Nat)(segs:List (List Int))(q:Nat)(t:List Int)(h:qs.length=segs.length):segCells (qs++[q]) (segs++[t])=segCells qs segs++[.slice (some ⟨q,0,none⟩) t.length t.length]:=by
 unfold segCells
 rw [List.zipWith_append h]
 rfl
theorem getD_snocN (l:List Nat)(x d i:Nat):(l++[x]).getD i d=if i<l.length then l.getD i d else if i=l.length then x else d:=by
 rw [List.getD_eq_getElem?_getD,List.getD_eq_getElem?_getD]
 by_cases h:i<l.length
 ·rw [List.getElem?_append_left h,if_pos h]
 ·rw [if_neg h,List.getElem?_append_right (by omega)]
  by_cases h2:i=l.length
  ·subst h2;simp
  ·rw [if_neg h2,List.getElem?_eq_none (by simp;omega)];rfl
theorem getD_snocL (l:List (List Int))(x:List Int)(i:Nat):(l++[x]).getD i []=if i<l.length then l.getD i [] else if i=l.length then x else []:=by
 rw [List.getD_eq_getElem?_getD,List.getD_eq_getElem?_getD]
 by_cases h:i<l.length
 ·rw [List.getElem?_append_left h,if_pos h]
 ·rw [if_neg h,List.getElem?_append_right (by omega)]
  by_cases h2:i=l.length
  ·subst h2;simp
  ·rw [if_neg h2,List.getElem?_eq_none (by simp;omega)];rfl
theorem reads_blk {w:World}{q:Nat}{xs:List Int}(h:Blk w q 5 (nums .u8 xs).toArray)(hl:xs.length<=1000000):ReadsInt w .u8 (some ⟨q,0,none⟩) xs.length xs:=by
 refine⟨rfl,by omega,fun _=>⟨_,rfl,fun j hj=>?_⟩⟩
 rw [add_plain]
 have:=h.ucell (j:Int) (by omega) (by omega)
 simpa [rd] using this
theorem segCells_len (qs:List Nat)(segs:List (List Int))(h:qs.length=segs.length):(segCells qs segs).length=segs.length:=by simp [segCells,h]
theorem bO_ {wr w1:World}{base:Nat}{vs v:Value}{qs:List Nat}{segs:List (List Int)}{n:Nat}{xs:List Value}(h:SegsAt wr base vs v qs segs)(ho:wr.ownsRow base 5 1 v n xs)(hg:wr.grownBy w1 v.ownBlock):w1.ownsRow base 26 1 vs (segCells qs segs).length (segCells qs segs):=by
 rw [segCells_len _ _ h.len]
 refine own_move h.own fun k hk=>?_
 obtain⟨cs,hb⟩:=own_blk h.own k hk
 exact hg.block k hb.lt (own_apart h.own ho (by decide) k hk)
theorem info26s:(Tryz.prog.info? 26).map (fun i=>(i.zero,i.size,i.bytes))=some (some (.slice none 0 0),1,24):=by kernel_rfl
set_option maxHeartbeats 4000000 in
set_option maxRecDepth 8000 in
theorem byteWalk (w0 w:World)(base s g pos cnt:Nat)(bs:List Nat)(v vs hint:Value)(xs:List Int)(qs:List Nat)(segs:List (List Int))(hS:SrcAt w s g bs pos)(hg0:g<base)(hbs:base<=s)(hO:w.ownsRow base 5 1 v xs.length (nums .u8 xs))(hQ:SegsAt w base vs v qs segs)(hB:Below base w0 w)(hbase:base<=w.heap.size)
  (hx:AllLt 8 bs) (hl:bs.length<=100000) (hcnt:cnt<=100000) (hxl:xs.length<=1000000) (hsl:segs.length<=1000000) (hp:pos+8*cnt<=8*bs.length) :
  Calls Tryz.prog 115 #[.pointer (some ⟨s,0,none⟩),v,.int .i64 (cnt:Int),.pointer none,vs,hint] w (ByteDone w0 base s g bs (pos+8*cnt) (xs++byteSeg bs pos cnt) (segs++[byteSeg bs pos cnt])):=by
 have kl:=srcLeft w s g pos bs hS (by omega) hl
 obtain⟨r,hr⟩:∃ r:Nat,8*bs.length-pos=r:=⟨_,rfl⟩
 rw [hr] at kl
 have hcr:8*cnt<=r:=by omega
 have hmk:=make_u8 cnt (by omega)
 have hdd:decide ((r:Int)<8*(cnt:Int))=false:=decide_eq_false (by omega)
 have HS:=Aside0.mk hS
 have HO:=Aside0.mk hO
 have HQ:=Aside0.mk hQ
 have HB:=Aside0.mk hB
 have HX:=Aside0.mk hx
 have HP:=Aside0.mk hp
 have HLN:=Aside0.mk hl
 have HXL:=Aside0.mk hxl
 have HSL:=Aside0.mk hsl
 clear hS hO hQ hB hx hr hp hl hxl hsl
 go_enter Tryz.func115,Tryz.ntmps115
 go_wp2_with (go_at_call 106;refine kl.mono ?_;rintro e w' ⟨rfl,m1,rfl⟩)
 clear hmk kl
 obtain⟨q,hq⟩:∃ q,q=(w.drewN m1).heap.size:=⟨_,rfl⟩
 obtain⟨w2,hw2⟩:∃ w2,w2=(w.drewN m1).alloc (.cells (nums .u8 (ints (List.replicate cnt 0))).toArray 5):=⟨_,rfl⟩
 rw [<- hw2]
 have hq':q=w.heap.size:=hq
 rw [<- hq']
 have HQE:=Aside0.mk hq'
 have HBLK:=Aside0.mk (show Blk w2 q 5 (nums .u8 (byTo bs pos cnt 0)).toArray by
  rw [hw2,hq,byTo_zero,show List.replicate cnt (0:Int)=ints (List.replicate cnt 0) by simp [ints]]
  exact Blk.new _ _ _)
 have HU:=Aside0.mk (show Upd w w2 s by rw [hw2];exact⟨rfl,rfl,rfl,by simp,fun k hk _=>Below.heap_alloc (w.drewN m1) _ k hk⟩)
 have HS2:=Aside0.mk (show SrcAt w2 s g bs (pos+8*0) by rw [hw2];exact SrcAt.alloc (SrcAt.move (w':=w.drewN m1) HS.out rfl rfl) _)
 have HBS:=Aside0.mk (show q<w2.heap.size by rw [hw2,hq];simp)
 clear hw2 hq hq' hdd
 go_loopw [16] (fun vi wr=>∃ i:Nat,vi=.int .i64 (i:Int)/\i<=cnt/\Aside0 (Blk wr q 5 (nums .u8 (byTo bs pos cnt i)).toArray)/\Aside0 (Upd w wr s)/\Aside0 (SrcAt wr s g bs (pos+8*i))/\Aside0 (q<wr.heap.size)) (fun vi _=>(cnt-intOf vi).toNat)
 case atStart=>exact⟨0,rfl,by omega,HBLK,HU,HS2,HBS⟩
 case round=>
  clear HBLK HU HS2 HBS
  obtain⟨i,rfl,hi,HBLK,HU,HS2,HBS⟩:=hrel
  by_cases hic:i<cnt
  ·have kr:=readBits wr s g (pos+8*i) 8 bs HS2.out (by have:=HP.out;omega) HLN.out (by decide) (by decide) HX.out
   obtain⟨n,hnn⟩:∃ n,rdBits bs (pos+8*i) 8=n:=⟨_,rfl⟩
   rw [hnn] at kr
   have hn:n<256:=by rw [<- hnn];exact rdBits_lt _ _ _
   have HSET:=Aside0.mk (show (byTo bs pos cnt i).set i (n:Int)=byTo bs pos cnt (i+1) by rw [<- hnn];exact byTo_set bs pos cnt i hic)
   have hne:q≠s:=by have:=HS.out.1.lt;have:=HQE.out;omega
   have hqg:g≠q:=by have:=HS.out.2.lt;have:=HQE.out;omega
   clear hnn
   go_wp2_with (go_at_call 107;refine kr.mono ?_;rintro e w3 ⟨rfl,hS',hT'⟩;have HS3:=Aside0.mk hS';have HU3:=Aside0.mk (HU.out.turn hT');have HBLK3:=Aside0.mk (hT'.blk HBLK.out hne);have HBS3:=Aside0.mk (show q<w3.heap.size by rw [hT'.size];exact HBS.out);have z2:w3.frozen? ⟨q,i,none⟩=false:=HBLK3.out.frozen i;obtain⟨old,z1⟩:∃ old,w3.cell? ⟨q,i,none⟩=some (.int .u8 old):=⟨_,by have:=HBLK3.out.ucell (i:Int) (by omega) (by rw [byTo_len _ _ _ _ (by omega)];omega);rwa [Int.toNat_natCast] at this⟩;clear hS' hT')
   have HB4:=Aside0.mk (HBLK3.out.uset i (n:Int))
   have HT4:=Aside0.mk (Turn.set w3 q i (.int .u8 (n:Int)))
   go_roundw
   case rel=>exact⟨i+1,by go_num,by omega,⟨by rw [<- HSET.out];exact HB4.out⟩,⟨HU3.out.turn_new HT4.out (by rw [HQE.out];exact Nat.le_refl _)⟩,⟨by have:=HS3.out;exact this.move (HT4.out.block s (Ne.symm hne)) (HT4.out.block g hqg)⟩,⟨by rw [HT4.out.size];exact HBS3.out⟩⟩
   case measure=>simp [intOf];omega
  ·have:cnt=i:=by omega
   subst this
   have hblk:=HBLK.out
   rw [byTo_all] at hblk
   have hbl:=byteSeg_len bs pos cnt
   obtain⟨ys,hys⟩:∃ ys,byteSeg bs pos cnt=ys:=⟨_,rfl⟩
   rw [hys] at hblk hbl
   have HYS:=Aside0.mk hys
   have HR:=Aside0.mk (reads_blk hblk (by omega))
   have HYL:=Aside0.mk hbl
   have HY:=Aside0.mk hblk
   have hne:q≠s:=by have:=HS.out.1.lt;have:=HQE.out;omega
   have hown:wr.ownsRow base 5 1 v xs.length (nums .u8 xs):=own_move HO.out fun k hk=>by
    obtain⟨cs,hb⟩:=own_blk HO.out k hk
    exact HU.out.block k hb.lt (blk_ne hb HS.out.1 (by decide))
   have HOW:=Aside0.mk hown
   have hq5:some q≠v.ownBlock:=by
    intro hc
    obtain⟨cs,hb⟩:=own_blk HO.out q hc.symm
    have:=hb.lt
    have:=HQE.out
    omega
   have HBB:=Aside0.mk (HB.out.trans (⟨HU.out.os,HU.out.tape,HU.out.output,HU.out.size,fun k hk=>HU.out.block k (by omega) (by omega)⟩:Below base w wr))
   have hsz:base<=wr.heap.size:=Nat.le_trans hbase HU.out.size
   have HQS:=Aside0.mk (show SegsAt wr base vs v qs segs by
    refine⟨HQ.out.len,own_move HQ.out.own fun k hk=>?_,fun i hi=>?_⟩
    ·obtain⟨cq,hb⟩:=own_blk HQ.out.own k hk
     exact HU.out.block k hb.lt (blk_ne hb HS.out.1 (by decide))
    ·obtain⟨h1,h2,h3⟩:=HQ.out.blk i hi
     exact⟨h1,HU.out.blk h2 (blk_ne h2 HS.out.1 (by decide)),h3⟩)
   have HQB:=Aside0.mk (show base<=q by rw [HQE.out];exact hbase)
   clear hblk hbl hys hown
   have HSZ:=Aside0.mk hsz
   clear hsz
   go_wp2_with (first | ((with_reducible refine gate_builtin (b:=.append) (xs:=#[.tmp 49,.tmp 50]) rfl ?_);at_builtin;refine print_append_row (w0:=w0) base rfl (.tmp 49) (.tmp 50) 26 5 .u8 1 rfl Tryz.underlying26 F.info5 (by decide) v xs ys (some ⟨q,0,none⟩) cnt cnt rfl rfl HOW.out ?aR HBB.out HSZ.out ?aL ?_;(case aR=>(have h1:=HR.out;rw [HYL.out] at h1;exact h1));(case aL=>(have:=HXL.out;omega));intro v1 w1 ho hb hg hat;have HO1:=Aside0.mk ho;have HB1:=Aside0.mk hb;have HG1:=Aside0.mk hg;have HA1:=Aside0.mk hat;clear ho hb hg hat) | ((with_reducible refine gate_builtin (b:=.append) (xs:=#[.tmp 52,.tmp 54]) rfl ?_);at_builtin;refine print_append (w0:=w0) base rfl (.tmp 52) (.tmp 54) 27 26 (.slice none 0 0) 24 rfl Tryz.underlying27 info26s rfl (by decide) vs (segCells qs segs) (.slice (some ⟨q,0,none⟩) cnt cnt) rfl rfl rfl ?bO HB1.out ?bZ ?bL ?_;(case bO=>exact bO_ HQS.out HOW.out HG1.out);(case bZ=>exact Nat.le_trans HSZ.out HG1.out.size);(case bL=>(rw [segCells_len _ _ HQS.out.len];have:=HSL.out;omega));intro v2 w2 ho2 hb2 hg2 hat2;have HO2:=Aside0.mk ho2;have HB2:=Aside0.mk hb2;have HG2:=Aside0.mk hg2;have HA2:=Aside0.mk hat2;clear ho2 hb2 hg2 hat2))
   go_ret3
   rw [HYS.out]
   have hvs1:=bO_ HQS.out HOW.out HG1.out
   have hq5':∀ k,k<wr.heap.size->some k≠v.ownBlock->some k≠v1.ownBlock:=by
    intro k hk hn
    rcases HA1.out with e | ⟨b,e,hb⟩
    ·rw [e];exact hn
    ·rw [e];intro hc;injection hc with hc;omega
   have mv:∀ (k:Nat) (t:TypeId) (cs:Array Value),Blk wr k t cs->some k≠v.ownBlock->t≠26->Blk w2 k t cs:=by
    intro k t cs hb hn ht
    have h1:Blk w1 k t cs:=(HG1.out.block k hb.lt hn).trans hb
    exact (HG2.out.block k h1.lt (own_ne hvs1 h1 (Ne.symm ht))).trans h1
   refine⟨v1,v2,qs++[q],rfl,own_move HO1.out fun k hk=>?_,⟨by simp [HQS.out.len],?_,?_⟩,?_,HB2.out,Nat.le_trans (Nat.le_trans HSZ.out HG1.out.size) HG2.out.size⟩
   ·obtain⟨cs,hb⟩:=own_blk HO1.out k hk
    exact HG2.out.block k hb.lt (own_apart HO1.out hvs1 (by decide) k hk)
   ·have h:=HO2.out
    rw [List.length_append,segCells_len _ _ HQS.out.len] at h
    rw [segCells_snoc _ _ _ _ HQS.out.len,HYL.out,List.length_append]
    exact h
   ·intro j hj
    rw [List.length_append,List.length_singleton] at hj
    rw [getD_snocN,getD_snocL,HQS.out.len]
    by_cases hjs:j<segs.length
    ·rw [if_pos hjs,if_pos hjs]
     obtain⟨h1,h2,h3⟩:=HQS.out.blk j hjs
     exact⟨h1,mv _ _ _ h2 h3 (by decide),hq5' _ h2.lt h3⟩
    ·obtain rfl:j=segs.length:=by omega
     rw [if_neg hjs,if_pos rfl,if_neg hjs,if_pos rfl]
     exact⟨HQB.out,mv _ _ _ HY.out hq5 (by decide),hq5' _ HBS.out hq5⟩
   ·refine HS2.out.move ((mv _ _ _ HS2.out.1 (own_ne HOW.out HS2.out.1 (by decide)) (by decide)).trans HS2.out.1.symm) ?_
    obtain⟨⟨cs,hc⟩,_⟩:=HS2.out.2
    exact (mv _ _ _ hc (fun hc=>by have:=own_base HOW.out g hc.symm;omega) (by decide)).trans hc.symm
def befD (c d i:Nat):Nat:=d*i+(i-c)
theorem befD_succ (c d i:Nat):befD c d (i+1)=befD c d i+dl c d i:=by
 unfold befD dl
 rw [Nat.mul_add,Nat.mul_one]
 split<;>omega
def dataOf (c d c2 e:Nat)(ws:List Nat)(k:Nat):List Nat:=(List.range k).flatMap fun j=>(blockWords c d c2 e ws j).take (dl c d j)
theorem blockWords_len (c d c2 e:Nat)(ws:List Nat)(j:Nat):(blockWords c d c2 e ws j).length=dl c d j+e:=by simp [blockWords]
theorem dataOf_succ (c d c2 e:Nat)(ws:List Nat)(k:Nat):dataOf c d c2 e ws (k+1)=dataOf c d c2 e ws k++(blockWords c d c2 e ws k).take (dl c d k):=by
 unfold dataOf
 rw [List.range_succ,List.flatMap_append]
 simp
theorem dataOf_len (c d c2 e:Nat)(ws:List Nat)(k:Nat):(dataOf c d c2 e ws k).length=befD c d k:=by
 induction k with
 | zero=>simp [dataOf,befD]
 | succ k ih=>
  rw [dataOf_succ,List.length_append,ih,befD_succ,List.length_take,blockWords_len]
  omega
theorem befD_mono (c d i k:Nat)(h:i<=k):befD c d i<=befD c d k:=by
 unfold befD
 have:=Nat.mul_le_mul_left d h
 omega
theorem dataOf_get (c d c2 e:Nat)(ws:List Nat)(j x:Nat)(hx:x<dl c d j):∀ k,j<k->(dataOf c d c2 e ws k).getD (befD c d j+x) 0=(blockWords c d c2 e ws j).getD x 0:=by
 intro k
 induction k with
 | zero=>intro h;omega
 | succ k ih=>
  intro h
  rw [dataOf_succ]
  by_cases hjk:j=k
  ·subst hjk
   rw [List.getD_eq_getElem?_getD,List.getElem?_append_right (by rw [dataOf_len];omega),dataOf_len,Nat.add_sub_cancel_left,List.getElem?_take,if_pos hx,<- List.getD_eq_getElem?_getD]
  ·have h1:=befD_mono c d (j+1) k (by omega)
   rw [befD_succ] at h1
   rw [List.getD_eq_getElem?_getD,List.getElem?_append_left (by rw [dataOf_len];omega),<- List.getD_eq_getElem?_getD]
   exact ih (by omega)
end Go.Proofs.YtgccjgpdjkhpdaaGreat.B
