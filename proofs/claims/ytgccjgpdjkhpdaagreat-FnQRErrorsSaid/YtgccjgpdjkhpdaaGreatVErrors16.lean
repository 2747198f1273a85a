import Derived.Laws.EntriesVeiled
import Derived.Test.YtgccjgpdjkhpdaaGreatVErrors10
open Go.Proofs.YtgccjgpdjkhpdaaGreatW.PrintWords.Aside0 renaming mk→Mw
open Nat renaming le_refl→Mx
open List renaming length_append→My
/-! Own texts of this claim, part 16. -/
namespace Go.Proofs.YtgccjgpdjkhpdaaGreat.B
open Go.RowKit Go.Proofs.YtgccjgpdjkhpdaaGreatW.PrintWords Go.Proofs.YtgccjgpdjkhpdaaGreatW.PrintLast Go.Proofs.YtgccjgpdjkhpdaaGreatW.PrintMore
set_option linter.unusedVariables false
set_option linter.unusedSimpArgs false
theorem iW {T G:Prop}(r:T->G)(h:T):G:=r h
theorem bT.upd_any {w w':World}{b pv:Nat}{n:Int}{v:eo}{t:TypeId}{cs:Array Value}(h:bT w pv n v)(hu:aC w w' b)(hb:Blk w b t cs)(h1:154≠t)(h2:3≠t)(h3:224≠t)(h4:221≠t):bT w' pv n v:=by
 obtain⟨gc,ge,g,k1,k2,k3,k4⟩:=h;exact⟨gc,ge,g,hu.blk k1 (bd k1 hb h1),hu.blk k2 (bd k2 hb h2),hu.blk k3 (bd k3 hb h3),fun l hl=>hu.blk (k4 l hl) (bd (k4 l hl) hb h4)⟩
theorem aQ.words {w:World}{g b wd ht:Nat}{f:Nat->Nat->Bool}(G:aQ w g b wd ht f):∃ cs,Blk w b 214 cs:=by
 obtain⟨xs,h1,h2,h3⟩:=G;exact⟨_,h2⟩
theorem ig.upd {w w':World}{p g v b:Nat}{fm:Value}{cs:Array Value}(h:ig w p g v fm)(hu:aC w w' b)(hb:Blk w b 214 cs):ig w' p g v fm:=by
 obtain⟨x1,h1,h2⟩:=h;refine⟨x1,hu.blk h1 (bd h1 hb (by decide)),?_⟩;rcases h2 with h | ⟨pv,h,hV⟩
 ·exact .inl h
 exact .inr ⟨pv,h,hV.upd_any hu hb (by decide) (by decide) (by decide) (by decide)⟩
theorem ig.below {w w':World}{p g v B:Nat}{fm:Value}(h:ig w p g v fm)(hb:Below B w w')(hB:w.heap.size<=B):ig w' p g v fm:=by
 obtain⟨x1,h1,h2⟩:=h;refine⟨x1,h1.below hb (by have:=h1.lt;omega),?_⟩
 rcases h2 with h | ⟨pv,h,hV⟩
 ·exact .inl h
 exact .inr ⟨pv,h,hV.below hb hB⟩
def oM (v m:Nat)(f:Nat->Nat->Bool):List Bool:=fo (fun x y=>f x y != eB m x y) (dW (17+4*v) (bM v (bA v)))
def kH (v m:Nat)(f:Nat->Nat->Bool):List Nat:=(List.range (bW v/8)).map (kD (oM v m f))
def Df (w:World)(p g b v q d:Nat)(f:Nat->Nat->Bool)(e:Ending)(w':World):Prop:=∃ gr,e=.returned (.tuple #[.slice (some ⟨gr,0,none⟩) (bW v/8) (bW v/8),.nilIface])/\w.heap.size<=gr/\aA w' gr (kH v (d%8) f)/\
 aQ w' g b (17+4*v) (17+4*v) (fun x y=>f x y != eB (d%8) x y)/\bk w w' p b
set_option maxHeartbeats 8000000 in
theorem Dg (w:World)(p g b v q d:Nat)(f:Nat->Nat->Bool)(hP:ig w p g v (.pointer (some ⟨q,0,none⟩)))(hF:j7 w q d)(G:aQ w g b (17+4*v) (17+4*v) f)(hv:1<=v/\v<=40)(hok:sr f v)(hgp:g≠p)(hbp:b≠p) :
  Calls Tryz.prog 45 #[.pointer (some ⟨p,0,none⟩)] w (Df w p g b v q d f):=by
 obtain⟨hT,hR⟩:=jp v hv;obtain⟨n,hn⟩:∃ n,17+4*v=n:=⟨_,rfl⟩;obtain⟨T,hTd⟩:∃ T,bW v/8=T:=⟨_,rfl⟩;rw [hTd] at hT;have hTl:T<=5000:=by omega
 have HG:=Mw G;have HP:=Mw hP;have HF:=Mw hF;have HV:=Mw hv;have HOK:=Mw hok;have HT:=Mw hT;have HTD:=Mw hTd;have HN:=Mw hn;have HR:=Mw hR;have hn1:21<=n:=by omega
 have hn2:n<=177:=by omega
 have hmul:n*1=n:=Nat.mul_one n;clear G hP hF hok hT hTd hn hR hv hmul
 go_enter Tryz.func45,Tryz.ntmps45
 go_wp2_with fail
 refine (KF w p g v q d HP.out HF.out).mono ?_;rintro e w1 ⟨q1,rfl,hF1,hP1,hu1⟩;have HF1:=Mw hF1;have HP1:=Mw hP1;have HU1:=Mw hu1;have HG1:=Mw (hu1.grid HG.out hgp hbp);clear hF1 hP1 hu1
 go_wp2_with fail
 refine (Bd w1 p g b v (.pointer (some ⟨q1,0,none⟩)) f HP1.out HG1.out HV.out HOK.out).mono ?_;rintro e w2 ⟨pv,rfl,hV2,hP2,hu2⟩;have HV2:=Mw hV2;have HP2:=Mw hP2;have HU2:=Mw (HU1.out.trans hu2);have HG2:=Mw (hu2.grid HG1.out hgp hbp);have HF2:=Mw (show j7 w2 q1 d by obtain⟨x1,hb1,_⟩:=HP1.out;exact hu2.blk HF1.out (bd HF1.out hb1 (by decide)))
 clear hV2 hP2 hu2
 go_wp2_with fail
 refine (Mt w2).mono ?_;rintro e w3 ⟨rfl,hw3⟩;have hb3:Below w2.heap.size w2 w3:=by rw [hw3];exact ai (Below.refl _ _) _
 have HM3:=Mw (show Blk w3 w2.heap.size 159 Be by rw [hw3];exact Blk.new _ _ _)
 have HB3:=Mw hb3;clear hw3 hb3
 go_wp2_with fail
 have hF3:j7 w3 q1 d:=HF2.out.below HB3.out (Blk.lt HF2.out);have km:=Mj w3 q1 d hF3;obtain⟨mk,hmk⟩:∃ mk,d%8=mk:=⟨_,rfl⟩;rw [hmk] at km;have hmk8:mk<8:=by omega
 have HMK:=Mw hmk;have HF3:=Mw hF3;clear hF3 hmk;refine km.mono ?_;rintro e w' ⟨rfl,rfl⟩;clear km;have cm:w3.cell? ⟨w2.heap.size,mk,none⟩=some (jg mk):=by
  rw [HM3.out.cell]
  match mk,hmk8 with
  | 0,_=>rfl
  | 1,_=>rfl
  | 2,_=>rfl
  | 3,_=>rfl
  | 4,_=>rfl
  | 5,_=>rfl
  | 6,_=>rfl
  | 7,_=>rfl
 obtain⟨F,hF⟩:∃ F,132+mk=F:=⟨_,rfl⟩;unfold jg at cm;rw [hF] at cm;have hun:=fun (W:World) (GG:aQ W g b n n f)=>Mv W mk g b n f hmk8 GG (by omega)
 unfold jg at hun;rw [hF] at hun;have HUN:=Mw hun;have HG3:=Mw (show aQ w3 g b n n f by have:=HG2.out.below HB3.out HG2.out.lt.1 HG2.out.lt.2;rw [HN.out] at this;exact this)
 have HP3:=Mw (HP2.out.below HB3.out (Mx _));have HV3:=Mw (HV2.out.below HB3.out (Mx _));clear hF hun;have cp:∀ o,(w3.alloc o).cell? ⟨p,0,none⟩=some (.pointer (some ⟨g,0,none⟩)):=fun o=>by
  obtain⟨x1,hb1,_⟩:=HP3.out;exact (hb1.alloc o).cell 0
 go_wp2_with fail
 obtain⟨w4,hw4⟩:∃ w4,w4=w3.alloc (.cells #[.func (.func F) #[] #[]] 159):=⟨_,rfl⟩;rw [<- hw4];obtain⟨B7,hB7⟩:∃ B7,B7=w3.heap.size:=⟨_,rfl⟩;rw [<- hB7];have hb4:Below w3.heap.size w3 w4:=by rw [hw4];exact ai (Below.refl _ _) _
 have HB4:=Mw hb4;have HG4:=Mw (HG3.out.below hb4 HG3.out.lt.1 HG3.out.lt.2);have HP4:=Mw (HP3.out.below hb4 (Mx _));have HV4:=Mw (HV3.out.below hb4 (Mx _));have H7:=Mw (show Blk w4 B7 159 #[.func (.func F) #[] #[]] by rw [hw4,hB7];exact Blk.new _ _ _)
 have c7:w4.cell? ⟨B7,0,none⟩=some (.func (.func F) #[] #[]):=H7.out.cell 0;have cp4:w4.cell? ⟨p,0,none⟩=some (.pointer (some ⟨g,0,none⟩)):=by
  obtain⟨x1,hb1,_⟩:=HP4.out;exact hb1.cell 0
 have HBB7:=Mw hB7;clear cp hw4 hB7 hb4 cm;refine (py w4 g b n n f HG4.out).mono ?_;rintro e w' ⟨rfl,rfl⟩
 go_wp2_with fail
 have HGD:=Mw (show aQ w4.drew g b n n f from HG4.out.below (bC (Below.refl _ w4)) HG4.out.lt.1 HG4.out.lt.2);apply iW
 case r=>
  intro REST
  go_region_with (go_at_call 91;refine (HUN.out w4.drew HGD.out).mono ?_;rintro e w5 ⟨rfl,hG5,hu5⟩)
  all_goals (revert hu5 hG5;revert w5;exact REST)
 intro w5 hG5 hu5;have HU5:=Mw (show aC w4 w5 b from ⟨hu5.os,hu5.tape,hu5.output,hu5.size,hu5.block⟩);have HG5:=Mw hG5;obtain⟨wb,hwb⟩:=HG4.out.words;have HP5:=Mw (HP4.out.upd HU5.out hwb);have HV5:=Mw (HV4.out.upd_any HU5.out hwb (by decide) (by decide) (by decide) (by decide));clear hG5 hu5 hwb c7 cp4
 go_wp2_with fail
 refine (Cg w5 pv v HV.out HV5.out).mono ?_;rintro e w6 ⟨gf,bf,rfl,hbf,hgf,hGf,hb6⟩;rw [HN.out] at hGf;have HGF:=Mw hGf;have HB6:=Mw hb6;have HG6:=Mw (HG5.out.below hb6 HG5.out.lt.1 HG5.out.lt.2);have HP6:=Mw (HP5.out.below hb6 (Mx _));have HV6:=Mw (HV5.out.below hb6 (Mx _));clear hGf hb6
 go_wp2_with fail
 refine (sR w6 pv v T _ HV6.out HT.out).mono ?_;rintro e w' ⟨rfl,rfl⟩;have mk8:=nc T (by omega)
 go_wp2_with fail
 clear mk8;obtain⟨gr,hgr⟩:∃ gr,gr=w6.heap.size:=⟨_,rfl⟩;rw [<- hgr];obtain⟨w7,hw7⟩:∃ w7,w7=w6.alloc (.cells (ac .u8 (ak (List.replicate T 0))).toArray 5):=⟨_,rfl⟩;rw [<- hw7];have hb7:Below gr w6 w7:=by rw [hw7,hgr];exact ai (Below.refl _ _) _
 have HB7:=Mw hb7;have HR7:=Mw (show aA w7 gr (List.replicate T 0) by rw [hw7,hgr];exact Blk.new _ _ _)
 have l1:=HGF.out.lt;have l2:=HG6.out.lt;have l3:p<w6.heap.size:=by obtain⟨x1,hb1,_⟩:=HP6.out;exact hb1.lt
 have HGF7:=Mw (HGF.out.below hb7 (by omega) (by omega));have HG7:=Mw (HG6.out.below hb7 (by omega) (by omega));have HP7:=Mw (HP6.out.below hb7 (by omega));have HV7:=Mw (HV6.out.below hb7 (by omega));have n1:gf≠gr:=by omega
 have n2:bf≠gr:=by omega
 have n3:g≠gr:=by omega
 have n4:b≠gr:=by omega
 have n5:p≠gr:=by omega
 obtain⟨fp,hfp⟩:∃ fp,bM v (bA v)=fp:=⟨_,rfl⟩;obtain⟨bt,hbt⟩:∃ bt:Nat->Nat->Bool,(fun x y=>f x y != eB mk x y)=bt:=⟨_,rfl⟩;rw [hfp] at HGF7;rw [hbt] at HG7;obtain⟨ALL,hall⟩:∃ ALL,fo bt (dW n fp)=ALL:=⟨_,rfl⟩;have hlenA:ALL.length=bW v:=by
  rw [<- hall,qe,<- hfp,<- HN.out];exact tT v HV.out
 obtain⟨R,hRR⟩:∃ R,bW v=R:=⟨_,rfl⟩;rw [hRR] at hlenA;have hRT:R/8=T:=by rw [<- hRR];exact HTD.out
 have hRl:R<=40000:=by rw [<- hRR];exact HR.out
 have HALL:=Mw hall;have HLEN:=Mw hlenA;have HFP:=Mw hfp;have HBT:=Mw hbt;have HRT:=Mw hRT;have HRR:=Mw hRR;have HGR:=Mw hgr;have HHB:=Mw (And.intro hbf hgf);clear hw7 hb7 l1 l2 l3 hall hlenA hfp hbt hRT hRR hgr hbf hgf
 go_loopw [10,12,13,14,15] (fun vu vo vc vb vj wr=>∃ (L:List Bool) (o c m:Nat) (j:Int) (k:Nat) (up:Bool),vu=.bool up/\vo=.int .i64 (o:Int)/\vc=.int .i64 (c:Int)/\vb=.int .i64 (m:Int)/\vj=.int .i64 j/\-1<=j/\j<n/\j.toNat<=k/\o<=5000/\c<=127/\m<=7/\
  Aside0 (o=L.length/8/\c=gL L/\m=L.length%8)/\Aside0 (L++fo bt (eU n fp k j.toNat up)=ALL)/\Aside0 (aA wr gr (fk T L))/\Aside0 (af w7 wr gr)) (fun _ _ _ _ vj _=>(intOf vj+2).toNat)
 case atStart=>exact⟨[],0,0,0,(n:Int)-1,n,true,rfl,rfl,rfl,rfl,rfl,by omega,by omega,by omega,by omega,by omega,by omega,⟨⟨rfl,rfl,rfl⟩⟩,⟨by rw [<- HALL.out,show ((n:Int)-1).toNat=n-1 by omega];rfl⟩,⟨by have:=HR7.out;unfold fk;simpa using this⟩,⟨af.refl _ _⟩⟩
 case round=>
  obtain⟨L,o,c,m,j,k,up,rfl,rfl,rfl,rfl,rfl,hj1,hj2,hjk,ho,hc,hm,HS,HW,HU,HTN⟩:=hrel;by_cases hj0:0<j;rotate_left
  ·have hL:L=ALL:=by
    have h:=HW.out;rw [show j.toNat=0 by omega] at h;have hw0:eU n fp k 0 up=[]:=by cases k with | zero=>rfl | succ k=>rw [eU,if_pos rfl]
    rw [hw0] at h;unfold fo at h;simpa using h
   subst hL;have hoT:o=T:=by have:=HS.out.1;have:=HLEN.out;have:=HRT.out;omega
   subst hoT;have kt:=sR wr pv v o _ (HV7.out.upd_any (aC.of_turn HTN.out) HR7.out (by decide) (by decide) (by decide) (by decide)) HT.out
   go_wp2_with (go_at_call 93;refine kt.mono ?_;rintro e w' ⟨rfl,rfl⟩)
   go_ret2
   have hres:fk o L=kH v mk f:=by
    unfold fk kH oM;rw [HBT.out,HN.out,HFP.out,HALL.out,HTD.out,show L.length/8=o by have:=HS.out.1;omega,Nat.sub_self,List.replicate_zero,List.append_nil]
   have hGend:aQ wr g b n n bt:=HG7.out.keep (HTN.out.block g n3) (HTN.out.block b n4);have hu:bk w wr p b:=by
    have a1:bk w w2 p b:=bk.of HU2.out b;have a3:bk w2 w3 p b:=bk.of (aC.of_below HB3.out p) b;have a4:bk w3 w4 p b:=bk.of (aC.of_below HB4.out p) b;have a5:bk w4 w5 p b:=bk.of' HU5.out p;have a6:bk w5 w6 p b:=bk.of (aC.of_below HB6.out p) b;have a7:bk w6 w7 p b:=bk.of (aC.of_below (by have:=HB7.out;rw [HGR.out] at this;exact this) p) b
    have a6':=((((a1.trans a3).trans a4).trans a5).trans a6).trans a7;refine⟨HTN.out.os.trans a6'.os,HTN.out.tape.trans a6'.tape,HTN.out.output.trans a6'.output,by rw [HTN.out.size];exact a6'.size,fun i hi h1 h2=>?_⟩
    have hs:w.heap.size<=gr:=by rw [HGR.out];exact (((((a1.trans a3).trans a4).trans a5).trans a6)).size
    rw [HTN.out.block i (by omega)];exact a6'.block i hi h1 h2
   refine⟨gr,by first | (rw [HTD.out];done) | (rw [HTD.out];rfl),?_,?_,?_,hu⟩
   ·rw [HGR.out];have a1:bk w w2 p b:=bk.of HU2.out b;have a3:bk w2 w3 p b:=bk.of (aC.of_below HB3.out p) b;have a4:bk w3 w4 p b:=bk.of (aC.of_below HB4.out p) b;have a5:bk w4 w5 p b:=bk.of' HU5.out p;have a6:bk w5 w6 p b:=bk.of (aC.of_below HB6.out p) b;exact ((((a1.trans a3).trans a4).trans a5).trans a6).size
   ·rw [HMK.out,<- hres];exact HU.out
   rw [HN.out,HMK.out,HBT.out];exact hGend
  obtain⟨right,rfl⟩:∃ right:Nat,j=(right:Int):=⟨j.toNat,by omega⟩;rw [Int.toNat_natCast] at hjk HW;have hr1:1<=right:=by omega
  obtain⟨rt,hrt⟩:∃ rt,dA right=rt:=⟨_,rfl⟩;have hrt1:1<=rt/\rt<=right:=by rw [<- hrt];unfold dA;split<;>omega
  obtain⟨hrt1,hrt2⟩:=hrt1;obtain⟨k',rfl⟩:∃ k',k=k'+1:=⟨k-1,by omega⟩;have hway:L++(fo bt (bR n fp rt up n)++fo bt (eU n fp k' (rt-2) (!up)))=ALL:=by
   have h:=HW.out;rw [eU,if_neg (by omega),hrt,sQ] at h;exact h
  have hfit:L.length+(bR n fp rt up n).length<=R:=by
   have h:=congrArg List.length hway;rw [My,My,HLEN.out,qe] at h;omega
  have HWAY:=Mw hway;have HFIT:=Mw hfit;have HRTT:=Mw hrt;have h56:right=6->rt=5:=by intro h;rw [<- hrt,h];rfl
  have h56':right≠6->rt=right:=by intro h;rw [<- hrt];unfold dA;rw [if_neg h]
  have H56:=Mw (And.intro h56 h56');clear hway hfit hrt h56 h56';by_cases h6:right=6
  all_goals
   first
    | (subst h6;have e5:=H56.out.1 rfl;go_wp2_with fail;rw [show Value.int .i64 (5:Int)=Value.int .i64 (rt:Int) by rw [e5];rfl];clear e5)
    | (have e5:=H56.out.2 h6;subst e5;go_wp2_with fail)
   obtain⟨wo,rfl⟩:∃ wo:World,wo=wr:=⟨_,rfl⟩
   go_loopw [12,13,14,16] (fun vo vc vb vt wi=>∃ (L':List Bool) (o c m t:Nat),vo=.int .i64 (o:Int)/\vc=.int .i64 (c:Int)/\vb=.int .i64 (m:Int)/\vt=.int .i64 (t:Int)/\t<=n/\o<=5000/\c<=127/\m<=7/\
    Aside0 (o=L'.length/8/\c=gL L'/\m=L'.length%8)/\Aside0 (L'=L++fo bt (bR n fp rt up t))/\Aside0 (aA wi gr (fk T L'))/\Aside0 (af w7 wi gr)) (fun _ _ _ vt _=>(n-intOf vt).toNat)
   case atStart=>exact⟨L,o,c,m,0,rfl,rfl,rfl,rfl,by omega,ho,hc,hm,HS,⟨by rw [bR];unfold fo;simp⟩,HU,HTN⟩
   case round=>
    obtain⟨L',o',c',m',t,rfl,rfl,rfl,rfl,ht,ho',hc',hm',HS',HL',HU',HTN'⟩:=hrel;by_cases htn:t<n;rotate_left
    ·have:n=t:=by omega
     subst this
     set_option maxRecDepth 8000 in go_wp2_with fail
     go_roundw
     case rel=>exact⟨L',o',c',m',(rt:Int)-2,k',!up,by rfl,rfl,rfl,rfl,by go_num,by omega,by omega,by omega,ho',hc',hm',HS',⟨by rw [HL'.out,List.append_assoc,show ((rt:Int)-2).toNat=rt-2 by omega];exact HWAY.out⟩,HU',HTN'⟩
     case measure=>simp only [intOf];omega
    obtain⟨r,hr⟩:∃ r,fd n up t=r:=⟨_,rfl⟩;have hrn:r<n:=by rw [<- hr];exact rD n up t htn
    have HRW:=Mw hr;have hup1:up=true->(n:Int)-1-(t:Int)=(r:Int):=by intro h;rw [<- hr,h];unfold fd;simp;omega
    have hup2:up=false->t=r:=by intro h;rw [<- hr,h];rfl
    have HUP:=Mw (And.intro hup1 hup2);have hfit2:L'.length+(jx fp rt r).length<=R:=by
     have e:=congrArg List.length HL'.out;rw [My,qe] at e;have h1:=Cm n fp rt up (t+1) (n-(t+1));rw [show t+1+(n-(t+1))=n by omega,bR,My,hr] at h1;have:=HFIT.out;omega
    have HFIT2:=Mw hfit2;clear hr hup1 hup2 hfit2;cases up
    all_goals
     first
      | (have HE:=Mw (show (n:Int)-1-(t:Int)=(r:Int) from HUP.out.1 rfl))
      | (have HE:=Mw (show t=r from HUP.out.2 rfl))
     go_wp2_with fail
     rw [HE.out];obtain⟨w2o,rfl⟩:∃ w2o:World,w2o=wr:=⟨_,rfl⟩
     go_loopw [12,13,14,18] (fun vo vc vb vs wi=>∃ (L2:List Bool) (o c m s:Nat),vo=.int .i64 (o:Int)/\vc=.int .i64 (c:Int)/\vb=.int .i64 (m:Int)/\vs=.int .i64 (s:Int)/\s<=2/\o<=5000/\c<=127/\m<=7/\
      Aside0 (o=L2.length/8/\c=gL L2/\m=L2.length%8)/\Aside0 (L2=L'++fo bt (mB fp rt r s))/\Aside0 (aA wi gr (fk T L2))/\Aside0 (af w7 wi gr)) (fun _ _ _ vs _=>(2-intOf vs).toNat)
     case atStart=>exact⟨L',o',c',m',0,rfl,rfl,rfl,rfl,by omega,ho',hc',hm',HS',⟨by unfold mB fo;simp⟩,HU',HTN'⟩
     case round=>
      obtain⟨L2,o2,c2,m2,s,rfl,rfl,rfl,rfl,hs,ho2,hc2,hm2,HS2,HL2,HU2b,HTN2⟩:=hrel;by_cases hs2:s<2;rotate_left
      ·have:s=2:=by omega
       subst this
       set_option maxRecDepth 8000 in go_wp2_with fail
       go_roundw
       case rel=>exact⟨L2,o2,c2,m2,t+1,rfl,rfl,rfl,by first | go_num | (rw [HE.out];go_num),by omega,ho2,hc2,hm2,HS2,⟨by rw [HL2.out,HL'.out,bR,sQ,ww,HRW.out,List.append_assoc]⟩,HU2b,HTN2⟩
       case measure=>first | (simp [intOf];omega) | (have eUP:=HE.out;simp [intOf];omega)
      obtain⟨x,hx⟩:∃ x,rt-s=x:=⟨_,rfl⟩;have hxi:(rt:Int)-(s:Int)=(x:Int):=by omega
      have hxn:x<n:=by omega
      have kf:=uJ wr gf bf n n fp x r (HGF7.out.keep (HTN2.out.block gf n1) (HTN2.out.block bf n2)) hxn hrn (by omega) (by omega);have km:=uJ wr g b n n bt x r (HG7.out.keep (HTN2.out.block g n3) (HTN2.out.block b n4)) hxn hrn (by omega) (by omega);have cp:wr.cell? ⟨p,0,none⟩=some (.pointer (some ⟨g,0,none⟩)):=by
       obtain⟨x1,hb1,_⟩:=HP7.out;exact (HTN2.out.blk hb1 n5).cell 0
      have hstep:=wB fp rt r s hs2;rw [hx] at hstep;have hle:=Cn fp rt r (s+1) (by omega);have HXI:=Mw hx;clear hx;cases hfx:fp x r with
      | true=>
       rw [hfx] at kf hstep;have HST:=Mw hstep;clear hfx hstep hle km
       go_wp2_with (go_at_call_of 94 (Value.pointer (some ⟨gf,0,none⟩));refine kf.mono ?_;rintro e w' ⟨rfl,rfl⟩)
       go_roundw
       case rel=>exact⟨L2,o2,c2,m2,s+1,rfl,rfl,rfl,by go_num,by omega,ho2,hc2,hm2,HS2,⟨by rw [HST.out];simp only [if_true,List.append_nil];exact HL2.out⟩,HU2b,HTN2⟩
       case measure=>simp [intOf];omega
      | false=>
       rw [hfx] at kf hstep;have hnew:L2++[bt x r]=L'++fo bt (mB fp rt r (s+1)):=by
        rw [hstep,sQ,<- List.append_assoc,<- HL2.out];rfl
       have hroom:L2.length+1<=R:=by
        have e:=congrArg List.length hnew;rw [My,My,qe] at e;have:=HFIT2.out;simp at e;omega
       have HNEW:=Mw hnew;have HROOM:=Mw hroom;obtain⟨e1,e2,e3⟩:=HS2.out;obtain⟨z,hz⟩:∃ z,2*c2+(bt x r).toNat=z:=⟨_,rfl⟩;have hzl:z<=255:=by have:(bt x r).toNat<=1:=Bool.toNat_le _;omega
       have hzt:bt x r=true->Go.bits .or .i64 ((c2:Int)*2) 1=(z:Int):=by intro h;rw [AM c2 (by omega),<- hz,h];rfl
       have hzf:bt x r=false->(c2:Int)*2=(z:Int):=by intro h;rw [<- hz,h];simp;omega
       have HZ:=Mw hz;clear hfx hstep hle hnew hroom hz;by_cases hm7:m2=7;rotate_left
       ·obtain⟨a1,a2,a3⟩:=wv L2 (bt x r) (by omega);have HS3:=Mw (show o2=(L2++[bt x r]).length/8/\z=gL (L2++[bt x r])/\m2+1=(L2++[bt x r]).length%8 from ⟨by rw [a2];exact e1,by rw [a1,<- e2];exact HZ.out.symm,by rw [a3,<- e3]⟩)
        have HSET:=Mw (show aA wr gr (fk T (L2++[bt x r])) by rw [Ck T L2 (bt x r) (by omega)];exact HU2b.out)
        have hz7:z<=127:=by have:=Ch (L2++[bt x r]);have:=HS3.out.2.1;omega
        have hmb:m2+1<=7:=by omega
        clear e1 e2 e3 a1 a2 a3;cases hbb:bt x r
        all_goals
         rw [hbb] at km
         first | (have hq:=hzt hbb) | (have hq:=hzf hbb)
         have HBB:=Mw hbb;clear hzt hzf hbb
         go_wp2_with (first | (go_at_call_of 94 (Value.pointer (some ⟨gf,0,none⟩));refine kf.mono ?_;rintro e w' ⟨rfl,rfl⟩) | (go_at_call_of 94 (Value.pointer (some ⟨g,0,none⟩));refine km.mono ?_;rintro e w' ⟨rfl,rfl⟩))
         go_roundw
         case rel=>exact⟨L2++[bt x r],o2,z,m2+1,s+1,rfl,by first | rfl | go_num,by go_num,by go_num,by omega,ho2,hz7,hmb,HS3,HNEW,HSET,HTN2⟩
         case measure=>simp [intOf];omega
       subst hm7;have hacc:=wu L2 (bt x r) (by omega);have hset:=Cl T L2 (bt x r) (by omega) (by have:=HROOM.out;have:=HRT.out;omega)
       have hbl:(fk T L2).length=T:=Cj T L2 (by have:=HROOM.out;have:=HRT.out;omega)
       have hoT:o2<T:=by have:=HROOM.out;have:=HRT.out;omega
       have k1:=HU2b.out.cell o2 (by rw [hbl];exact hoT)
       have k2:wr.frozen? ⟨gr,o2,none⟩=false:=Blk.frozen HU2b.out o2;obtain⟨old,hold⟩:∃ old,(fk T L2).getD o2 0=old:=⟨_,rfl⟩;rw [hold] at k1;have HSET:=Mw (show aA (wr.setCell ⟨gr,o2,none⟩ (.int .u8 (z:Int))) gr (fk T (L2++[bt x r])) by
        have h:=HU2b.out.set o2 z;rw [<- hset,<- e1,<- e2,HZ.out];exact h)
       have HS3:=Mw (show o2+1=(L2++[bt x r]).length/8/\0=gL (L2++[bt x r])/\0=(L2++[bt x r]).length%8 by
        have hl:(L2++[bt x r]).length=L2.length+1:=by simp
        exact⟨by omega,(Ci _ (by omega)).symm,by omega⟩)
       have HT3:=Mw (HTN2.out.trans (af.set wr gr o2 (.int .u8 (z:Int))));clear e1 e2 e3 hacc hset hbl hold;cases hbb:bt x r
       all_goals
        rw [hbb] at km
        first | (have hq:=hzt hbb) | (have hq:=hzf hbb)
        have HBB:=Mw hbb;clear hzt hzf hbb
        go_wp2_with (first | (go_at_call_of 94 (Value.pointer (some ⟨gf,0,none⟩));refine kf.mono ?_;rintro e w' ⟨rfl,rfl⟩) | (go_at_call_of 94 (Value.pointer (some ⟨g,0,none⟩));refine km.mono ?_;rintro e w' ⟨rfl,rfl⟩))
        go_roundw
        case rel=>exact⟨L2++[bt x r],o2+1,0,0,s+1,by go_num,rfl,rfl,by go_num,by omega,by omega,by omega,by omega,HS3,HNEW,HSET,HT3⟩
        case measure=>simp [intOf];omega
end Go.Proofs.YtgccjgpdjkhpdaaGreat.B
