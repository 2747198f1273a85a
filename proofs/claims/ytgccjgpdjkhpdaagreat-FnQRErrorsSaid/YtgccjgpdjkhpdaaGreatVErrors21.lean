import Derived.Test.YtgccjgpdjkhpdaaGreatVErrors20
open Go.Proofs.YtgccjgpdjkhpdaaGreatW.PrintWords.Aside0 renaming mk→Mw
open Nat renaming le_refl→Mx,le_trans→My,pow_le_pow_right→Mz
open List renaming getD_eq_getElem?_getD→MA
/-! Own texts of this claim, part 21. -/
namespace Go.Proofs.YtgccjgpdjkhpdaaGreat.B
open Go.Proofs.YtgccjgpdjkhpdaaGreat.F (pu_ ta_ no_ hv_ hvS_)
open Go.RowKit Go.Proofs.YtgccjgpdjkhpdaaGreatW.PrintWords Go.Proofs.YtgccjgpdjkhpdaaGreatW.PrintLast Go.Proofs.YtgccjgpdjkhpdaaGreatW.PrintMore
set_option linter.unusedVariables false
set_option linter.unusedSimpArgs false
def yC:Bool×List (List Nat×List Nat):=(true,[([],[]),([],[]),([],[]),([],[]),([2,3],[2,3]),([4],[4]),([],[]),([],[]),([6,7],[6,7]),([8],[8]),([5,9],[5,9]),([0,1,0,1,2,3,4,5,6,7,8,9,10],[0,1]),([11,10,10,0,1,2,3,4,5,6,7,8,9,10],[10,11])])
def B172:List Nat:=[0,0,0,0,12,28,0,0,192,448,1020,2047,4095]
theorem Fo:cH .any (lC Tryz.f172 39)=yC:=by kernel_rfl
theorem Fp:iw yC.2 B172=true:=by kernel_rfl
open Po in
set_option maxHeartbeats 16000000 in
set_option maxRecDepth 8000 in
theorem Fq (w:World)(rs gf m p b g T n B0:Nat)[Fi:FF m p](xs ws:List Nat)(hm:m<=12)(hb:b<=1)(hEM:∀ W,Below B0 w W->EM w w rs gf m p b->Blk W rs 196 #[.pointer (some ⟨gf,0,none⟩)]/\bF W gf m p b)(hE:EM w w rs gf m p b)(hB0:B0<=g)(hB1:B0<=w.heap.size)(hX:ag w g xs)(hn:xs.length=n)(hw2:ws.length=n)(hx:ab m xs)(hw:ab m ws)(hlen:n<=2 ^ m-1)(h1n:1<=n)(hT:T+b<=2 ^ m)(hT1:1<=T)(hT2:T<=1900)
  (hc:∀ i,i<T->ao m p (gx m p (i+b)) ws=0) (hcnt:2*(cR m p (diff xs ws)).length<=T) (hne:cR m p (diff xs ws)≠[]) :
  Calls Tryz.prog 172 #[.pointer (some ⟨rs,0,none⟩),.slice (some ⟨g,0,none⟩) n n,.int .i64 (T:Int)] w fun e w'=>e=.returned .nilIface/\ag w' g ws/\aC w w' g:=by
 have hl:xs.length=ws.length:=by omega
 have hM4:2 ^ m<=4096:=My (Mz (by omega) hm) (by decide);obtain⟨es,hes⟩:∃ es,cR m p (diff xs ws)=es:=⟨_,rfl⟩;have hnd:(es.map Prod.fst).Nodup:=by rw [<- hes];exact DF _ (by rw [diff_len xs ws hl];omega)
 have h0:∀ x∈es,x.1≠0/\x.2≠0:=by rw [<- hes];exact DC _ (qG xs ws hx hw)
 have hps:ap m p (eO m p b T xs T)=dg b T es:=by rw [<- hes];exact DY b T xs ws hl hx hw hc
 rw [hes] at hcnt hne;have hesl:1<=es.length:=List.length_pos_iff.2 hne;have hsne:∃ i,i<T/\ao m p (gx m p (i+b)) xs≠0:=by
  apply Classical.byContradiction;intro hcon;refine hne (DZ b T es hT1 (by omega) hnd h0 fun i hi=>?_);rw [<- hes,<- xQ b T i hi _ (qG xs ws hx hw),xZ _ (dm Fi.fld _) xs ws hl hx hw (hc i hi)];have:ao m p (gx m p (i+b)) xs=0:=Classical.byContradiction fun h=>hcon ⟨i,hi,h⟩
  rw [this,fq]
 have HES:=Mw hes;have HND:=Mw hnd;have HNE:=Mw h0;have HPS:=Mw hps;have HSN:=Mw hsne;have HCNT:=Mw hcnt;have HM:=Mw hm;have HE:=Mw hE;have HEM:=Mw (fun W (h:Below B0 w W)=>hEM W h hE);have HX:=Mw hx;have HW:=Mw hw;have HN:=Mw hn;have HN2:=Mw hw2;have HXB:=Mw hX;have HLL:=Mw hl;have HLEN:=Mw hlen;have HTM:=Mw hT;have hx0:xs≠[]:=by intro h;rw [h] at hn;simp at hn;omega
 have hstl:=mE xs hx0;have HSTL:=Mw (show (bJ xs).length<=5000 by omega);have kp:=j8 w gf g 0 n xs (b6.whole hX) (by omega) hx0 (by omega);rw [hn] at kp;have d0:=hE.cell;have hn4:n<=4096:=by omega
 have hb4:b<=4096:=by omega
 have mk:=kJ T (by omega);clear hes hnd h0 hps hsne hcnt hne hm hE hEM hx hw hn hw2 hX hl hlen hT hx0 hstl hM4 hc
 go_enter Tryz.func172,Tryz.ntmps172
 go_wp2_with fail
 with_reducible (refine kp.mono ?_)
 rintro e w1 ⟨q,rfl,hq,hPA,hb1⟩;clear kp;have HPA:=Mw hPA;have HB1:=Mw hb1;have hmk:=mk w1;obtain⟨gs,hgs⟩:∃ gs,gs=w1.heap.size:=⟨_,rfl⟩;obtain⟨w2,hw2⟩:∃ w2,w2=w1.alloc (.cells (ac .i64 (ak (List.replicate T 0))).toArray 3):=⟨_,rfl⟩;rw [<- hgs,<- hw2] at hmk;have HZ:=Mw (show ag w2 gs (eO m p b T xs 0) by rw [hw2,hgs];unfold eO;rw [List.range_zero,List.reverse_nil,List.map_nil,List.append_nil,Nat.sub_zero];exact Blk.new _ _ _)
 have HB2:=Mw (show Below w1.heap.size w1 w2 by rw [hw2];exact ai (Below.refl _ _) _)
 have HGS:=Mw (show w1.heap.size<=gs by rw [hgs];exact Mx _)
 have HSET:=Mw (fun i (hi:i<T)=>DV m p b T xs i hi);have HSLN:=Mw (fun i (hi:i<=T)=>xY m p b T xs i hi);have HSAT:=Mw (fun i (hi:i<T)=>DX m p b T xs i hi);clear hPA hb1 d0 hw2 hgs hq mk
 go_wp2_with fail
 clear hmk
 go_loopw [10,11,12] (fun vb vi v12 wr=>∃ (i:Nat) (f:Bool),vi=.int .i64 (i:Int)/\vb=.bool f/\i<=T/\Aside0 (f=true↔∀ j,j<i->ao m p (gx m p (j+b)) xs=0)/\Aside0 (Below w1.heap.size w1 wr)/\Aside0 (ag wr gs (eO m p b T xs i))) (fun _ vi _ _=>(T-intOf vi).toNat)
 case atStart=>exact⟨0,true,rfl,rfl,by omega,⟨⟨fun _ j hj=>absurd hj (by omega),fun _=>rfl⟩⟩,HB2,HZ⟩
 case round=>
  clear HB2 HZ;obtain⟨i,f,rfl,rfl,hi,HF,HB,HZ⟩:=hrel;have HBw:=Mw (HB1.out.trans (HB.out.mono HB1.out.size));have HEr:=Mw (HE.out.step HBw.out);have d0:=HEr.out.cell;by_cases hiT:i<T
  ·have HP2:=Mw (HPA.out.below HB.out (Mx _));have hib:i+b<2 ^ m:=by have:=HTM.out;omega
   have k1:=fun k=>uF (wr.drewN k) gf m p b (HEr.out.gf.drawn k)
   have k2:=fun k=>AA (wr.drewN k) gf m p b (i+b) (HEr.out.gf.drawn k) hib
   rw [show ((i+b:Nat):Int)=(i:Int)+(b:Int) by omega] at k2;have k3:=fun k=>se (wr.drewN k) q gf m p b (gx m p (i+b)) (bJ xs) Fi.fld Fi.prim HM.out (HEr.out.gf.drawn k) (HP2.out.drawn k) (lI HX.out) (dm Fi.fld _) (by have:=HSTL.out;omega)
   rw [wW] at k3;obtain⟨y,hy⟩:∃ y,ao m p (gx m p (i+b)) xs=y:=⟨_,rfl⟩;have HY:=Mw hy;rw [hy] at k3;obtain⟨a,ha⟩:∃ a,gx m p (i+b)=a:=⟨_,rfl⟩;rw [ha] at k2 k3;obtain⟨j,hj⟩:∃ j,T-1-i=j:=⟨_,rfl⟩;have hjT:j<T:=by omega
   have hji:(T:Int)-1-(i:Int)=(j:Int):=by omega
   have z1:wr.cell? ⟨gs,j,none⟩=some (.int .i64 0):=by
    have h:=HZ.out.cell j (by rw [HSLN.out i hi];exact hjT)
    rw [<- hj,HSAT.out i hiT,hj] at h;exact h
   have z2:wr.frozen? ⟨gs,j,none⟩=false:=Blk.frozen HZ.out _;have HZ2:=Mw (fun k=>show ag ((wr.drewN k).setCell ⟨gs,j,none⟩ (.int .i64 (y:Int))) gs (eO m p b T xs (i+1)) by
    have h:=(show ag (wr.drewN k) gs (eO m p b T xs i) from Blk.below HZ.out (au (Below.refl wr.heap.size wr) k) (Blk.lt HZ.out)).set j y;rw [<- hj,<- hy,HSET.out i hiT,hj,hy] at h;exact h)
   have HBZ:=Mw (fun k=>(show Below w1.heap.size w1 ((wr.drewN k).setCell ⟨gs,j,none⟩ (.int .i64 (y:Int))) from Below.setc (au HB.out k) HGS.out _));clear hib ha hj hy
   go_wp2
   go_quiet (first
    | (go_at_call 177;exact Calls.quiet_of_same (k1 _))
    | (go_at_call 176;exact Calls.quiet_of_same (k2 _))
    | (go_at_call 175;exact Calls.quiet_of (k3 _)))
   clear k1 k2 k3;by_cases hy0:y=0;rotate_left
   ·have hyb:((y:Int) != 0)=true:=by simp;omega
    have HF2:=Mw (show false=true↔∀ j,j<i+1->ao m p (gx m p (j+b)) xs=0 by
     constructor
     ·intro h;cases h
     intro h;exact absurd (HY.out.symm.trans (h i (by omega))) hy0)
    clear hy0
    go_wp2
    go_roundw
    case rel=>exact⟨i+1,false,by go_num,rfl,by omega,HF2,⟨HBZ.out _⟩,⟨HZ2.out _⟩⟩
    case measure=>simp [intOf];omega
   subst hy0;have HF2:=Mw (show f=true↔∀ j,j<i+1->ao m p (gx m p (j+b)) xs=0 by
    rw [HF.out];constructor
    ·intro h j hj;by_cases h2:j<i
     ·exact h j h2
     rw [show j=i by omega];exact HY.out
    intro h j hj;exact h j (by omega))
   go_wp2
   go_roundw
   case rel=>exact⟨i+1,f,by go_num,rfl,by omega,HF2,⟨HBZ.out _⟩,⟨HZ2.out _⟩⟩
   case measure=>simp [intOf];omega
  have hTi:T=i:=by omega
  subst hTi;have hf:f=false:=by
   cases f with
   | false=>rfl
   | true=>
    obtain⟨j,hj,hj2⟩:=HSN.out;exact absurd (HF.out.1 rfl j hj) hj2
  subst hf;have hsl:=HSLN.out T (Mx _);have hs0:eO m p b T xs T≠[]:=by intro h;rw [h] at hsl;simp at hsl;omega
  have kq:=j8 wr gf gs 0 T (eO m p b T xs T) (b6.whole HZ.out) (by omega) hs0 (by omega);rw [hsl] at kq;obtain⟨sy,hsy⟩:∃ sy,bJ (eO m p b T xs T)=sy:=⟨_,rfl⟩;have HSR:=Mw (show bz m sy by rw [<- hsy];exact⟨lI (DW Fi.fld b T xs HX.out T),oN _⟩)
  have HSP:=Mw (show ap m p sy=dg b T es by rw [<- hsy,nh];exact HPS.out)
  have HSY:=Mw (show sy.length<=T by rw [<- hsy];have:=mE _ hs0;omega)
  rw [hsy] at kq;have KM:=Mw (fun W (h:bF W gf m p b)=>wX W gf m p b T 1 HM.out h (ni Fi.fld) (by omega));clear hsl hs0 hsy hi hiT HF
  go_wp2_with fail
  with_reducible (refine kq.mono ?_)
  rintro e w3 ⟨q3,rfl,_,hp3,hb3⟩;have HB3:=Mw (HBw.out.trans (hb3.mono HBw.out.size));have HP3:=Mw hp3;have HE3:=Mw (HE.out.step HB3.out);have d3:=HE3.out.cell;have km:=KM.out w3 HE3.out.gf;rw [show ((1:Nat):Int)=1 from rfl] at km;clear kq hp3 hb3 d0 KM
  go_wp2_with fail
  with_reducible (refine km.mono ?_)
  rintro e w4 ⟨q4,rfl,hp4,hb4⟩;have HB4:=Mw (HB3.out.trans (hb4.mono HB3.out.size));have HE4:=Mw (show EM w4 w4 rs gf m p b from ⟨(HE.out.step HB4.out).rs,(HE.out.step HB4.out).gf,Below.refl _ _⟩);have ke:=E8 w4 rs gf m p b T q4 q3 sy es HM.out HE4.out hp4 (HP3.out.under hb4) HSR.out HSP.out HSY.out hT1 hT2 HCNT.out HND.out HNE.out;clear hp4 hb4 km d3
  go_wp2_with fail
  with_reducible (refine ke.mono ?_)
  rintro e w5 ⟨q5,q6,sg,om_,rfl,hp5,hp6,hr5,hr6,he5,he6,hb5⟩;have HB5:=Mw (HB4.out.trans (hb5.mono HB4.out.size));have HE5:=Mw (show EM w5 w5 rs gf m p b from ⟨(HE.out.step HB5.out).rs,(HE.out.step HB5.out).gf,Below.refl _ _⟩);have HP6:=Mw hp6;have HR6:=Mw hr6;have HO6:=Mw he6;have kc:=Fb w5 rs gf m p b q5 sg es HM.out HE5.out hp5 hr5 he5 (fun x hx=>(HNE.out x hx).1) HND.out hesl (by have:=HCNT.out;omega)
  obtain⟨k,hk⟩:∃ k,es.length=k:=⟨_,rfl⟩;rw [hk] at kc;have HK:=Mw hk;have hk2:k<=950:=by have:=HCNT.out;omega
  clear hp5 hp6 hr5 hr6 he5 he6 hb5 ke hk
  go_wp2_with fail
  with_reducible (refine kc.mono ?_)
  rintro e w6 ⟨gl,locs,cl,rfl,hl6,hlo,hcl,hgl,hb6⟩;have HB6:=Mw (HB5.out.trans (hb6.mono HB5.out.size));have HE6:=Mw (show EM w6 w6 rs gf m p b from ⟨(HE.out.step HB6.out).rs,(HE.out.step HB6.out).gf,Below.refl _ _⟩);have HL6:=Mw hl6;have HLO:=Mw hlo;have HGL:=Mw (My HB5.out.size hgl);have hlk:locs.length=k:=by rw [hlo.len];exact HK.out
  have HLK:=Mw hlk;have HOL:=Mw (show om_.length<=2000 by
   have:=th (p:=p) HR6.out.lt HR6.out.norm (n:=es.length+1) (by omega) (by rw [HO6.out];exact (lN b es).mono (by omega))
   have:=HK.out;omega)
  have HMR:=Mw (fun i (hi:i<locs.length)=>DQ (om_:=om_) hb HLO.out HND.out HNE.out HR6.out HO6.out hi);have kf:=Fn w6 rs gf m p b q6 gl cl k locs om_ HM.out hb HE6.out (HP6.out.under hb6) HR6.out hl6 hlk hlo.lt (by omega) hcl HOL.out (fun i hi=>xV HLO.out (fun x hx=>(HNE.out x hx).1) (by rw [HLK.out];exact hi)) (fun i hi=>by have:=(HMR.out i (by rw [HLK.out];exact hi)).1;rw [HLK.out] at this;exact this)
  clear kc hl6 hlo hgl hb6
  go_wp2_with fail
  with_reducible (refine kf.mono ?_)
  rintro e w7 ⟨gm,cm,rfl,hm7,hcm,hgm,hb7⟩;have HB7:=Mw (HB6.out.trans (hb7.mono HB6.out.size));have HL7:=Mw (show ag w7 gl locs from Blk.below HL6.out hb7 (Blk.lt HL6.out));have HM7:=Mw hm7;have HGM:=Mw (My HB6.out.size hgm);have HX7:=Mw (show ag w7 g xs from Blk.below HXB.out HB7.out (Blk.lt HXB.out));have HGW:=Mw (Blk.lt HXB.out);obtain⟨mags,hmags⟩:∃ mags,(List.range k).map (iD m p b locs om_)=mags:=⟨_,rfl⟩;rw [hmags] at HM7;have HMAT:=Mw (fun i (hi:i<k)=>show mags.getD i 0=iD m p b locs om_ i by rw [<- hmags,MA,List.getElem?_map,List.getElem?_range hi];rfl)
  have HMLT:=Mw (show ab m mags by
   rw [<- hmags];intro y hy;obtain⟨j,_,rfl⟩:=List.mem_map.1 hy;exact DR b j HR6.out.lt)
  have HMLN:=Mw (show mags.length=k by rw [<- hmags];simp)
  have hmg:∀ i,i<locs.length->∃ x∈cR m p (diff xs ws),x.1=an m p (locs.getD i 0)/\x.2=an m p (mags.getD i 0):=by
   intro i hi;obtain⟨_,x,hx,e1,e2⟩:=HMR.out i hi;exact⟨x,by rw [HES.out];exact hx,e1,by rw [HMAT.out i (by rw [<- HLK.out];exact hi)];exact e2⟩
  have hLO2:iX m p (cR m p (diff xs ws)) locs:=by rw [HES.out];exact HLO.out
  have HPL:=Mw (xW HLL.out (by rw [HN.out];exact HLEN.out) HX.out HW.out HMLT.out hLO2 hmg)
  have HFX:=Mw (vE HLL.out (by rw [HN.out];exact HLEN.out) HX.out HW.out HMLT.out hLO2 hmg)
  have HFL:=Mw (fun i=>show (dM m p xs locs mags i).length=n by rw [qE];exact HN.out)
  clear kf hm7 hgm hb7 hmags hmg hLO2 hlk
  go_wp2_with fail
  clear HB HZ HEr HBw
  go_loopw [19,20,21,22] (fun v19 v20 v21 v22 wr=>∃ i:Nat,v19=.int .i64 (i:Int)/\i<=k/\Aside0 (ag wr g (dM m p xs locs mags i))/\Aside0 (af w7 wr g)) (fun v19 _ _ _ _=>(k-intOf v19).toNat)
  case atStart=>exact⟨0,rfl,Nat.zero_le _,HX7,⟨af.refl _ _⟩⟩
  case round=>
   obtain⟨i,rfl,hik,HZ,HTU⟩:=hrel;have HBB:=Mw (show Below B0 w wr from ((HB7.out.mono hB1).trans (HTU.out.below hB0)));by_cases hlt:i<k;rotate_left
   ·have hie:i=k:=by omega
    subst hie;have HZF:=Mw (show ag wr g ws by have h:=HZ.out;rw [show i=locs.length from HLK.out.symm,HFX.out] at h;exact h)
    have HUP:=Mw (show aC w wr g from ⟨HTU.out.os.trans HB7.out.os,HTU.out.tape.trans HB7.out.tape,HTU.out.output.trans HB7.out.output,by rw [HTU.out.size];exact HB7.out.size,fun kk hk hkg=>(HTU.out.block kk hkg).trans (HB7.out.block kk hk)⟩)
    go_wp2
    go_ret
    exact⟨rfl,HZF.out,HUP.out⟩
   obtain⟨hrs,hgf⟩:=HEM.out wr HBB.out;have d0:wr.cell? ⟨rs,0,none⟩=some (.pointer (some ⟨gf,0,none⟩)):=hrs.cell 0;have hlw:ag wr gl locs:=(HTU.out.block gl (by have:=HGL.out;have:=HGW.out;omega)).trans HL7.out
   have hmw:ag wr gm mags:=(HTU.out.block gm (by have:=HGM.out;have:=HGW.out;omega)).trans HM7.out
   have HMW:=Mw hmw;have r1:=hlw.cell i (by rw [HLK.out];exact hlt)
   obtain⟨p1,p2,p3⟩:=HPL.out i (by rw [HLK.out];exact hlt)
   have HLX:=Mw (aF HLO.out.lt i);obtain⟨X,hX⟩:∃ X,locs.getD i 0=X:=⟨_,rfl⟩;rw [hX] at r1 p1 p2 HLX;have k1:=fun kk=>Me (wr.drewN kk) gf m p b X Fi.fld Fi.prim HM.out (hgf.drawn kk) HLX.out p2
   obtain⟨lg,hlg⟩:∃ lg,ef m p X=lg:=⟨_,rfl⟩;rw [hlg] at k1 p1;rw [HN.out] at p1;obtain⟨P,hP⟩:∃ P,n-1-lg=P:=⟨_,rfl⟩;have hPi:(n:Int)-1-(lg:Int)=(P:Int):=by omega
   have hPn:P<n:=by omega
   have hlg4:lg<=5000:=by omega
   obtain⟨old,hold⟩:∃ old,(dM m p xs locs mags i).getD P 0=old:=⟨_,rfl⟩;obtain⟨mg,hmg⟩:∃ mg,mags.getD i 0=mg:=⟨_,rfl⟩;obtain⟨z,hz⟩:∃ z,old ^^^ mg=z:=⟨_,rfl⟩;have HFS:=Mw (show (dM m p xs locs mags i).set P z=dM m p xs locs mags (i+1) by rw [dM,hX,hlg,HN.out,hP,hold,hmg,hz]);have hmgl:mg<4294967296:=by
    have h1:mg<2 ^ m:=by rw [<- hmg];exact aF HMLT.out i
    have h2:2 ^ m<=4096:=My (Mz (by omega) HM.out) (by decide);omega
   have holl:old<4294967296:=by
    have h0:∀ j,ab m (dM m p xs locs mags j):=by
     intro j
     induction j with
     | zero=>exact HX.out
     | succ j ih=>rw [dM];exact xB ih _ _ (fZ _ _ _ (aF ih _) (aF HMLT.out j))
    have h1:old<2 ^ m:=by rw [<- hold];exact aF (h0 i) P
    have h2:2 ^ m<=4096:=My (Mz (by omega) HM.out) (by decide);omega
   have km:∀ W,Calls Tryz.prog 184 #[.int .i64 (old:Int),.int .i64 (mg:Int)] W fun e w'=>e=.returned (.int .i64 (z:Int))/\∃ k,w'=W.drewN k:=fun W=>by
    rw [<- hz];refine (oc W old mg holl hmgl).mono ?_;rintro e w' ⟨h1,h2⟩;exact⟨h1,0,h2⟩
   have HKM:=Mw km;have HOLD:=Mw hold;have HMG:=Mw hmg;clear hrs hgf hlw hmw p1 p2 p3 hX hlg hP hold hmg hz hmgl holl km
   go_wp2
   go_quiet ((go_at_call 182;exact Calls.quiet_of_same (k1 _)))
   clear k1 r1 d0;obtain⟨w8,hw8⟩:∃ w8,w8=wr.drewN nq:=⟨_,rfl⟩;rw [<- hw8];have HZ8:=Mw (show ag w8 g (dM m p xs locs mags i) by rw [hw8];exact HZ.out)
   have HM8:=Mw (show ag w8 gm mags by rw [hw8];exact HMW.out)
   have HT8:=Mw (show af w7 w8 g by rw [hw8];exact HTU.out.trans ⟨rfl,rfl,rfl,rfl,fun _ _=>rfl⟩)
   clear hw8 HZ HTU HMW HBB
   go_wp2
   have r2:=HZ8.out.cell P (by rw [HFL.out];exact hPn)
   have r3:=HM8.out.cell i (by rw [HMLN.out];exact hlt)
   rw [HOLD.out] at r2;rw [HMG.out] at r3;have z2:w8.frozen? ⟨g,P,none⟩=false:=Blk.frozen HZ8.out _;have HZ9:=Mw (fun kk=>show ag ((w8.drewN kk).setCell ⟨g,P,none⟩ (.int .i64 (z:Int))) g (dM m p xs locs mags (i+1)) by
    have h:=ag.set (show ag (w8.drewN kk) g (dM m p xs locs mags i) from HZ8.out) P z;rw [HFS.out] at h;exact h)
   have HT9:=Mw (fun kk=>show af w7 ((w8.drewN kk).setCell ⟨g,P,none⟩ (.int .i64 (z:Int))) g from (HT8.out.trans (show af w8 (w8.drewN kk) g from ⟨rfl,rfl,rfl,rfl,fun _ _=>rfl⟩)).trans (af.set _ _ _ _));have km:=HKM.out;have e1:=eq_true (show (0:Int)<=(P:Int) by omega);have e2:=eq_true (show (P:Int)<(n:Int) by omega);have e3:=eq_true (show (0:Int)<=(i:Int) by omega);have e4:=eq_true (show (i:Int)<(k:Int) by omega);refine ji (n:=13) (S:=fun w'=>w'.cell? ⟨g,P,none⟩=some (.int .i64 (old:Int))/\w'.cell? ⟨gm,i,none⟩=some (.int .i64 (mg:Int))) (ds:=[12]) #[false,false,false,false,false,false,false,false,false,false,false,false,false] (by kernel_rfl) rfl rfl ⟨r2,r3⟩ (fun hHeld=>?_);refine jn Fo Fp (fun HT_ HW_=>?_);refine pu_ 0 158 HT_ ?_;refine pu_ 1 159 HT_ ?_;refine pu_ 2 160 HT_ ?_;refine pu_ 3 161 HT_ ?_;refine pu_ 6 164 HT_ ?_;refine pu_ 7 165 HT_ ?_;refine pu_ 4 162 HT_ ?_;refine pu_ 8 166 HT_ ?_;refine ta_ 5 163 HT_ HW_ hHeld ?_;refine ta_ 9 167 HT_ HW_ hHeld ?_;refine hJ (i:=10) (N:=some 168) #[true,true,true,true,true,true,true,true,true,true,true,false,false] rfl rfl (dJ HT_.out (by kernel_rfl)) (by decide) (fun K hK=>?_);refine ia Tryz.func184 (by kernel_rfl) rfl #[.int .i64 (old:Int),.int .i64 (mg:Int)] (by rfl) rfl rfl (by (try simp only [List.map_toArray,List.map_cons,List.map_nil]);first | done | rfl) ?_
   refine (km _).mono ?_;rintro e0 w5 ⟨rfl,nd,rfl⟩;refine⟨_,rfl,?_⟩;refine hK.out _ _ ⟨r2,r3⟩ (fun hHeld=>?_);clear hK K;refine no_ ?_;refine pu_ 11 169 HT_ ?_;refine jj (i:=12) (N:=none) #[true,true,true,true,true,true,true,true,true,true,true,true,true] rfl rfl (dJ HT_.out (by kernel_rfl)) (by decide) (fun K hK=>?_);refine jl (w1:=?_) (by rfl) rfl ?_ ?_;rotate_left
   ·go_simp
    rfl
   refine hK.out _ _ ?_;clear hK K;refine jk (jm HT_.out (by kernel_rfl)) ?_;clear r2 r3 z2 hHeld HT_ HW_ km e1 e2 e3 e4
   go_wp2
   go_roundw
   case rel=>exact⟨i+1,by go_num,by omega,⟨HZ9.out _⟩,⟨HT9.out _⟩⟩
   case measure=>simp [intOf];omega
end Go.Proofs.YtgccjgpdjkhpdaaGreat.B
namespace Go.Proofs.YtgccjgpdjkhpdaaGreat.B
open Go.RowKit Go.Proofs.YtgccjgpdjkhpdaaGreatW.PrintWords Go.Proofs.YtgccjgpdjkhpdaaGreatW.PrintLast Go.Proofs.YtgccjgpdjkhpdaaGreatW.PrintMore
set_option linter.unusedVariables false
set_option linter.unusedSimpArgs false
theorem ffQR:FF 8 285:=⟨gh,pQR⟩
def eP (ws xs:List Nat)(i:Nat):List Nat:=ws.take i++xs.drop i
theorem tF (ws xs:List Nat)(i:Nat)(h:ws.length=xs.length):(eP ws xs i).length=xs.length:=by
 unfold eP;simp;omega
theorem Fr (ws xs:List Nat)(i:Nat)(h:ws.length=xs.length)(hi:i<xs.length):(eP ws xs i).set i (ws.getD i 0)=eP ws xs (i+1):=by
 unfold eP;have hl:(ws.take i).length=i:=by simp;omega
 rw [List.set_append_right _ _ (by omega),hl,Nat.sub_self,pm ws i (by omega),List.append_assoc,List.drop_eq_getElem_cons hi,List.set_cons_zero];rfl
theorem Fs {w w':World}{g:Nat}(h:Below w.heap.size w w'):aC w w' g:=⟨h.os,h.tape,h.output,h.size,fun k hk _=>h.block k hk⟩
open Po in
set_option maxHeartbeats 4000000 in
theorem Ft (w:World)(d rs gf g n dn:Nat)(xs ws:List Nat)(hD:fP w d rs gf)(hU:aA w g xs)(hx:ab 8 xs)(hw:ab 8 ws)(hn:xs.length=n)(hn':ws.length=n)(hn1:1<=n)(hn2:n<=255)(hd:dn<n)(he:n-dn<=250)(hs:∀ i,i<n-dn->ao 8 285 (gx 8 285 i) ws=0)
  (hcnt:2*((diff xs ws).filter fun d=>!(d==0)).length<=n-dn) :
  Calls Tryz.prog 165 #[.pointer (some ⟨d,0,none⟩),.slice (some ⟨g,0,none⟩) n n,.int .i64 (dn:Int)] w fun e w'=>e=.returned .nilIface/\aA w' g (eP ws xs dn)/\aC w w' g:=by
 haveI:=ffQR
 have hl:xs.length=ws.length:=by omega
 rw [<- DG (m:=8) (p:=285)] at hcnt;by_cases hne:cR 8 285 (diff xs ws)=[]
 ·have hxw:=D4 xs ws hl hx hw hne;subst hxw;refine (Em w d rs gf g n dn xs hD hU hx hn hn1 (by omega) (by omega) he hs).mono ?_;rintro e w' ⟨rfl,hb⟩;refine⟨rfl,?_,Fs hb⟩;unfold eP;rw [List.take_append_drop];exact Blk.below hU hb (Blk.lt hU)
 obtain⟨hD1,hD2,hD3⟩:=hD;have c0:w.cell? ⟨d,0,none⟩=some (.pointer (some ⟨rs,0,none⟩)):=hD1.cell 0;have HD1:=Mw hD1;have HD2:=Mw hD2;have HD3:=Mw hD3;have HU:=Mw hU;have HX:=Mw hx;have HW:=Mw hw;have HN:=Mw hn;have HN2:=Mw hn';have HS:=Mw hs;have HCNT:=Mw hcnt;have HNE:=Mw hne;have mk:=sa n (by omega);clear hD1 hD2 hD3 hU hx hw hn hn' hs hcnt hne hl
 go_enter Tryz.func165,Tryz.ntmps165
 go_wp2
 clear mk c0;obtain⟨gi,hgi⟩:∃ gi,gi=w.heap.size:=⟨_,rfl⟩;rw [<- hgi];obtain⟨w1,hw1⟩:∃ w1,w1=w.alloc (.cells (ac .i64 (ak (List.replicate n 0))).toArray 3):=⟨_,rfl⟩;rw [<- hw1];have HZ:=Mw (show ag w1 gi (bU xs 0) by unfold bU;rw [hw1,hgi,HN.out];exact Blk.new _ _ _)
 have HB1:=Mw (show Below w.heap.size w w1 by rw [hw1];exact ai (Below.refl _ _) _)
 have HGI:=Mw hgi;have HSZ1:=Mw (show gi<w1.heap.size by rw [hw1,hgi];simp)
 clear hw1 hgi
 go_loopw [9] (fun vi wr=>∃ i:Nat,vi=.int .i64 (i:Int)/\i<=n/\Aside0 (Below w.heap.size w wr)/\Aside0 (ag wr gi (bU xs i))) (fun vi _=>(n-intOf vi).toNat)
 case atStart=>exact⟨0,rfl,by omega,HB1,HZ⟩
 case round=>
  clear HB1 HZ;obtain⟨i,rfl,hi,HB,HZ⟩:=hrel;by_cases hin:i<n
  ·obtain⟨x,hx⟩:∃ x,xs.getD i 0=x:=⟨_,rfl⟩;have hx8:x<256:=by rw [<- hx];exact aF HX.out i
   have r0:wr.cell? ⟨g,i,none⟩=some (.int .u8 (x:Int)):=by
    have:=aA.cell (Blk.below HU.out HB.out (Blk.lt HU.out)) i (by rw [HN.out];exact hin)
    rw [hx] at this;exact this
   obtain⟨old,hold⟩:∃ old,(bU xs i).getD i 0=old:=⟨_,rfl⟩;have r1:wr.cell? ⟨gi,i,none⟩=some (.int .i64 (old:Int)):=by
    have:=HZ.out.cell i (by rw [qN xs i (by rw [HN.out];exact hi),HN.out];exact hin)
    rw [hold] at this;exact this
   have r2:wr.frozen? ⟨gi,i,none⟩=false:=Blk.frozen HZ.out _;have ra:=qK x hx8;have HZ2:=Mw (show ag (wr.setCell ⟨gi,i,none⟩ (.int .i64 (x:Int))) gi (bU xs (i+1)) by
    have:=HZ.out.set i x;rw [<- hx,qO xs i (by rw [HN.out];exact hin),hx] at this
    exact this)
   have HB2:=Mw (show Below w.heap.size w (wr.setCell ⟨gi,i,none⟩ (.int .i64 (x:Int))) from Below.setc HB.out (by rw [HGI.out];exact Mx _) _)
   clear hx hold
   go_wp2
   go_roundw
   case rel=>exact⟨i+1,by go_num,by omega,HB2,HZ2⟩
   case measure=>simp [intOf];omega
  have:n=i:=by omega
  subst this;have hZ:=HZ.out;rw [<- HN.out,oT] at hZ;have HZ2:=Mw hZ;have c0:wr.cell? ⟨d,0,none⟩=some (.pointer (some ⟨rs,0,none⟩)):=(HD1.out.below HB.out HD1.out.lt).cell 0;have hem:∀ W,Below w.heap.size w W->Blk W rs 196 #[.pointer (some ⟨gf,0,none⟩)]/\bF W gf 8 285 0:=fun W h=>⟨HD2.out.below h HD2.out.lt,HD3.out.below h (Mx _)⟩
  have kr:=Fq wr rs gf 8 285 0 gi (n-dn) n w.heap.size xs ws (by decide) (by decide) (fun W h _=>hem W (HB.out.trans h)) ⟨(hem wr HB.out).1,(hem wr HB.out).2,Below.refl _ _⟩ (by rw [HGI.out];exact Mx _) HB.out.size hZ HN.out HN2.out HX.out HW.out (by have:(2:Nat) ^ 8=256:=rfl;omega) hn1 (by have:(2:Nat) ^ 8=256:=rfl;omega) (by omega) (by omega) (fun i hi=>HS.out i hi) HCNT.out HNE.out
  rw [show ((n-dn:Nat):Int)=(n:Int)-(dn:Int) by omega] at kr;clear hZ hem
  go_wp2_with fail
  with_reducible (refine kr.mono ?_)
  rintro e w2 ⟨rfl,hz2,hu2⟩;clear kr c0;have HZ3:=Mw hz2;have hgg:g≠gi:=by rw [HGI.out];have:=Blk.lt HU.out;omega
  have HU2:=Mw (show aC w w2 g from ⟨hu2.os.trans HB.out.os,hu2.tape.trans HB.out.tape,hu2.output.trans HB.out.output,My HB.out.size hu2.size,fun k hk _=>(hu2.block k (Nat.lt_of_lt_of_le hk HB.out.size) (by rw [HGI.out];omega)).trans (HB.out.block k hk)⟩)
  have HU3:=Mw (show aA w2 g (eP ws xs 0) from (hu2.block g (Nat.lt_of_lt_of_le (Blk.lt HU.out) HB.out.size) hgg).trans ((HB.out.block g (Blk.lt HU.out)).trans HU.out));clear hz2 hu2 HB HZ HZ2
  go_wp2_with fail
  go_loopw [11] (fun vi wr=>∃ i:Nat,vi=.int .i64 (i:Int)/\i<=dn/\Aside0 (aA wr g (eP ws xs i))/\Aside0 (af w2 wr g)) (fun vi _=>(dn-intOf vi).toNat)
  case atStart=>exact⟨0,rfl,by omega,HU3,⟨af.refl _ _⟩⟩
  case round=>
   obtain⟨i,rfl,hi,HU4,HT⟩:=hrel;by_cases hid:i<dn;rotate_left
   ·have:dn=i:=by omega
    subst this;clear hgg
    go_wp2
    go_ret
    exact⟨rfl,HU4.out,HT.out.os.trans HU2.out.os,HT.out.tape.trans HU2.out.tape,HT.out.output.trans HU2.out.output,by rw [HT.out.size];exact HU2.out.size,fun k hk hkg=>(HT.out.block k hkg).trans (HU2.out.block k hk hkg)⟩
   obtain⟨x,hx⟩:∃ x,ws.getD i 0=x:=⟨_,rfl⟩;have hx8:x<256:=by rw [<- hx];exact aF HW.out i
   have hgne:gi≠g:=fun h=>hgg h.symm
   have r0:wr.cell? ⟨gi,i,none⟩=some (.int .i64 (x:Int)):=by
    have:=ag.cell (HT.out.blk HZ3.out hgne) i (by rw [HN2.out];omega)
    rw [hx] at this;exact this
   obtain⟨old,hold⟩:∃ old,(eP ws xs i).getD i 0=old:=⟨_,rfl⟩;have r1:wr.cell? ⟨g,i,none⟩=some (.int .u8 (old:Int)):=by
    have:=aA.cell HU4.out i (by rw [tF ws xs i (by rw [HN.out,HN2.out]),HN.out];omega)
    rw [hold] at this;exact this
   have r2:wr.frozen? ⟨g,i,none⟩=false:=Blk.frozen HU4.out _;have HU5:=Mw (show aA (wr.setCell ⟨g,i,none⟩ (.int .u8 (x:Int))) g (eP ws xs (i+1)) by
    have:=HU4.out.set i x;rw [<- hx,Fr ws xs i (by rw [HN.out,HN2.out]) (by rw [HN.out];omega),hx] at this
    exact this)
   have HT5:=Mw (HT.out.trans (af.set wr g i (.int .u8 (x:Int))));clear hx hold hgne hgg
   go_wp2
   go_roundw
   case rel=>exact⟨i+1,by go_num,by omega,HU5,HT5⟩
   case measure=>simp [intOf];omega
open Po in
structure yD (c d c2 e:Nat)(ws wc:List Nat):Prop where
 small:∀ j,j<c+c2->ab 8 (cB c d c2 e ws j)
 clean:tw c d c2 e wc
 near:∀ j,j<c+c2->2*((diff (cB c d c2 e ws j) (cB c d c2 e wc j)).filter fun d=>!(d==0)).length<=e
def iH (c d c2 e:Nat)(ws wc:List Nat)(i j:Nat):List Nat:=if j<i then eP (cB c d c2 e wc j) (cB c d c2 e ws j) (dl c d j) else cB c d c2 e ws j
theorem Fu (c d c2 e:Nat)(ws wc:List Nat):iH c d c2 e ws wc 0=cB c d c2 e ws:=by
 funext j;unfold iH;rw [if_neg (by omega)]
theorem yE (c d c2 e:Nat)(ws wc:List Nat)(i:Nat):iH c d c2 e ws wc i i=cB c d c2 e ws i:=by
 unfold iH;rw [if_neg (by omega)]
theorem Fv (c d c2 e:Nat)(ws wc:List Nat)(i:Nat):iH c d c2 e ws wc (i+1)=(fun j=>if j=i then eP (cB c d c2 e wc i) (cB c d c2 e ws i) (dl c d i) else iH c d c2 e ws wc i j)/\(eP (cB c d c2 e wc i) (cB c d c2 e ws i) (dl c d i)).length=(iH c d c2 e ws wc i i).length:=by
 constructor
 rotate_left
 ·rw [yE,tF _ _ _ (by rw [oU,oU])]
 funext j;unfold iH;by_cases h:j=i
 ·subst h;rw [if_pos (by omega),if_pos rfl]
 rw [if_neg h];by_cases h2:j<i
 ·rw [if_pos (by omega),if_pos h2]
 rw [if_neg (by omega),if_neg h2]
theorem Fw (ws xs:List Nat)(x k:Nat)(hk:k<x)(h:x<=ws.length):(eP ws xs x).getD k 0=ws.getD k 0:=by
 unfold eP;rw [MA,MA,List.getElem?_append_left (by simp;omega),List.getElem?_take_of_lt hk]
theorem Fx {w w':World}{g B:Nat}(h:aC w w' g)(hg:B<=g)(hB:B<=w.heap.size):Below B w w':=⟨h.os,h.tape,h.output,h.size,fun k hk=>h.block k (by omega) (by omega)⟩
theorem bm.turned {w w':World}{g B n i:Nat}{p q d:Nat->Nat}{cw:Nat->List Nat}{xs:List Nat}(h:bm w g B n n p q d cw)(hi:i<n)(hu:aC w w' (q i))(hx:aA w' (q i) xs)(hl:xs.length=(cw i).length):bm w' g B n n p q d (fun j=>if j=i then xs else cw j):=by
 have hne:∀ {k:Nat} {t:TypeId} {cs:Array Value},Blk w k t cs->t≠5->k≠q i:=fun hk ht=>bd hk (h.word i hi) ht
 refine⟨hu.blk h.row (hne h.row (by decide)),fun j hj=>?_,fun j hj=>?_,h.fresh,h.inj⟩;rotate_left
 ·by_cases e:j=i
  ·subst e;simp only [if_true];exact hx
  simp only [if_neg e];exact hu.blk (h.word j hj) (fun h2=>e (h.inj j i hj hi h2))
 have h1:=hu.blk (h.blk j hj) (hne (h.blk j hj) (by decide));by_cases e:j=i;rotate_left
 ·simp only [if_neg e];exact h1
 subst e;simp only [if_true];rw [hl];exact h1
theorem bm.other {w w':World}{g B n gt:Nat}{p q d:Nat->Nat}{cw:Nat->List Nat}{xs:List Nat}(h:bm w g B n n p q d cw)(hg:aA w gt xs)(ht:af w w' gt)(hq:∀ j,j<n->q j≠gt):bm w' g B n n p q d cw :=
 ⟨ht.blk h.row (bd h.row hg (by decide)),fun j hj=>ht.blk (h.blk j hj) (bd (h.blk j hj) hg (by decide)),fun j hj=>ht.blk (h.word j hj) (hq j hj),h.fresh,h.inj⟩
theorem Fy (v l:Nat)(hv:1<=v/\v<=40)(hl:l<4):aN v l+1+aW v l<=255:=by
 have h:∀ v:Fin 40,∀ l:Fin 4,aN (v.val+1) l.val+1+aW (v.val+1) l.val<=255:=by decide +kernel
 have:=h ⟨v-1,by omega⟩ ⟨l,hl⟩;simp only [show v-1+1=v by omega] at this;exact this
set_option maxHeartbeats 8000000 in
set_option maxRecDepth 8000 in
open Po in
theorem Fz (w:World)(dd rs gf p g b v dn l:Nat)(f:Nat->Nat->Bool)(hint:Value)(ws wc:List Nat)(K:Ending->World->Prop)
  (hD:fP w dd rs gf) (hP:ig w p g v (.pointer none)) (hdn:dn<32) (hgo:iR (aJ (cW f) 15) (aJ (ew f (17+4*v)) 15) bp (2147483647,0)=some dn) (G:aQ w g b (17+4*v) (17+4*v) f) (hv:1<=v/\v<=40) (hok:sr f v) (hgp:g≠p) (hbp:b≠p)
  (hl:dn/8=l) (hl4:l<4) (hws:kH v (dn%8) f=ws) (hC:yD (av v l) (aN v l) (aE v l) (aW v l) ws wc)
  (hK:∀ W gt pv,aA W gt (js (av v l) (aN v l) (aE v l) (aW v l) wc (av v l+aE v l))->bT W pv (v:Int) (dw v)->bk w W p b->w.heap.size<=gt->
   Calls Tryz.prog 61 #[.slice (some ⟨gt,0,none⟩) (fa (av v l) (aN v l) (av v l+aE v l)) (fa (av v l) (aN v l) (av v l+aE v l)),.pointer (some ⟨pv,0,none⟩),.int .i64 (l:Int),hint] W fun e W'=>∃ x y,e=.returned (.tuple #[x,y])/\K e W') :
  Calls Tryz.prog 149 #[.pointer (some ⟨dd,0,none⟩),.pointer (some ⟨p,0,none⟩),hint] w K:=by
 have HD:=Mw hD;have HP:=Mw hP;have HGO:=Mw hgo;have HG:=Mw G;have HV:=Mw hv;have HOK:=Mw hok;have HL:=Mw hl;have HWS:=Mw hws;have HC:=Mw hC;have HK:=Mw hK;clear hD hP hgo G hv hok hl hws hC hK
 go_enter Tryz.func149,Tryz.ntmps149
 go_wp2_with fail
 refine (Bd w p g b v _ f HP.out HG.out HV.out HOK.out).mono ?_;rintro e w1 ⟨pv,rfl,hV1,hP1,hu1⟩;have HV1:=Mw hV1;have HP1:=Mw hP1;have HU1:=Mw hu1;have HG1:=Mw (hu1.grid HG.out hgp hbp);clear hV1 hP1 hu1
 go_wp2_with fail
 refine (KH w1 p g b v dn f HP1.out HG1.out HV.out hdn HGO.out).mono ?_;rintro e w2 ⟨q2,rfl,hF2,hP2,hu2⟩;have HF2:=Mw hF2;have HP2:=Mw hP2;have HU2:=Mw (HU1.out.trans hu2);have HG2:=Mw (hu2.grid HG1.out hgp hbp);have HV2:=Mw (show bT w2 pv (v:Int) (dw v) by obtain⟨x1,hb1,_⟩:=HP1.out;exact HV1.out.upd_any hu2 hb1 (by decide) (by decide) (by decide) (by decide))
 clear hF2 hP2 hu2
 go_wp2_with fail
 refine (Mi w2 q2 dn HF2.out).mono ?_;rintro e w' ⟨rfl,rfl⟩;rw [HL.out]
 go_wp2_with fail
 refine (Dg w2 p g b v q2 dn f HP2.out HF2.out HG2.out HV.out HOK.out hgp hbp).mono ?_;rintro e w3 ⟨gr,rfl,hgr,hU3,hG3,hu3⟩;rw [HWS.out] at hU3;have HU3:=Mw hU3;have HUP3:=Mw ((bk.of HU2.out b).trans hu3);have HV3:=Mw (show bT w3 pv (v:Int) (dw v) by
  obtain⟨x1,hb1,_⟩:=HP2.out;obtain⟨cs,hb2⟩:=HG2.out.words;exact HV2.out.upd2 hu3 hb1 hb2)
 have hwl:ws.length=bW v/8:=by rw [<- HWS.out];simp [kH]
 have HWL:=Mw hwl;clear hU3 hG3 hu3 hwl hgr
 go_wp2_with fail
 refine (Dk w3 pv v l gr ws HV3.out HV.out hl4 HU3.out HWL.out).mono ?_;rintro e w4 ⟨gR,pf,qf,rfl,hgR,hD4,hb4⟩;have LY:=eD v l HV.out hl4;have HCL:=HC;have HKK:=HK;clear HC HK;obtain⟨e,he⟩:∃ e,aW v l=e:=⟨_,rfl⟩;obtain⟨c,hc⟩:∃ c,av v l=c:=⟨_,rfl⟩;obtain⟨d,hd⟩:∃ d,aN v l=d:=⟨_,rfl⟩;obtain⟨c2,hc2⟩:∃ c2,aE v l=c2:=⟨_,rfl⟩;rw [he,hc,hd,hc2] at LY hD4 HCL HKK;rw [hc,hc2];have hde:d+1+e<=255:=by rw [<- hd,<- he];exact Fy v l HV.out hl4
 obtain⟨lr,e1,e2,q1,q2,q3,q4,-⟩:=LY;obtain⟨n,hn⟩:∃ n,c+c2=n:=⟨_,rfl⟩;rw [hn] at hD4 HKK ⊢;have HD4:=Mw hD4;have HB4:=Mw hb4;have HDD3:=Mw (show fP w3 dd rs gf by
  obtain⟨x1,hb1,_⟩:=HP.out;obtain⟨cs,hb2⟩:=HG.out.words;exact HD.out.upd2 HUP3.out hb1 hb2)
 have HV4:=Mw (HV3.out.below hb4 (Mx _));have HUP4:=Mw (HUP3.out.trans_below hb4);have HNN:=Mw hn;clear hD4 hb4 lr he hc hd hc2;have hn1:1<=n:=by omega
 have hn100:n<=100:=by omega
 have hcn:c<=n:=by omega
 clear hn
 go_wp2_with fail
 go_loopw [14,67] (fun vt vi wr=>∃ i t:Nat,vi=.int .i64 (i:Int)/\vt=.int .i64 (t:Int)/\i<=n/\Aside0 (t=fa c d i)/\t<=300*i/\wr=w4) (fun _ vi _=>(n-intOf vi).toNat)
 case atStart=>exact⟨0,0,rfl,rfl,by omega,⟨by simp [fa]⟩,by omega,by first | rfl | trivial⟩
 case round=>
  obtain⟨i,t,rfl,rfl,hi,HT,ht,hww⟩:=hrel;have hww:=hww.symm;subst hww;by_cases hin:i<n
  ·have r0:=HD4.out.ptr (i:=i) hin hin;obtain⟨x,hx⟩:∃ x,dl c d i=x:=⟨_,rfl⟩;have hx3:x<=300:=by rw [<- hx];unfold dl;split<;>omega
   have kb:=wH w4 (pf i) (dl c d i:Int) _ (HD4.out.blk i hin);rw [hx] at kb;have HT2:=Mw (show t+x=fa c d (i+1) by rw [qP,HT.out,hx]);clear hx
   go_wp2_with (go_at_call 163;refine kb.mono ?_;rintro e' w' ⟨rfl,rfl⟩)
   go_roundw
   case rel=>exact⟨i+1,t+x,by go_num,by go_num,by omega,HT2,by omega,by first | rfl | trivial⟩
   case measure=>simp [intOf];omega
  have:n=i:=by omega
  subst this;have mk:=nc t (by omega)
  go_wp2
  clear mk;obtain⟨gt,hgt⟩:∃ gt,gt=w4.heap.size:=⟨_,rfl⟩;rw [<- hgt];obtain⟨D,hD⟩:∃ D,js c d c2 e wc n=D:=⟨_,rfl⟩;have hDl:D.length=t:=by rw [<- hD,lO,HT.out]
  obtain⟨w5,hw5⟩:∃ w5,w5=w4.alloc (.cells (ac .u8 (ak (List.replicate t 0))).toArray 5):=⟨_,rfl⟩;rw [<- hw5];have HZ:=Mw (show aA w5 gt (bU D 0) by unfold bU;rw [hw5,hgt,hDl];exact Blk.new _ _ _)
  have hb45:Below w4.heap.size w4 w5:=by rw [hw5];exact ai (Below.refl _ _) _
  have HB5:=Mw (HB4.out.trans (hb45.mono HB4.out.size));have HDB5:=Mw (show bm w5 gR w3.heap.size n n pf qf (dl c d) (iH c d c2 e ws wc 0) by rw [Fu];exact HD4.out.below hb45 (Mx _))
  have HQL:=Mw (fun i (hi:i<n)=>show qf i<w4.heap.size from Blk.lt (HD4.out.word i hi));have HQF:=Mw (fun i (hi:i<n)=>HD4.out.fresh i hi);have HGT3:=Mw (show w3.heap.size<=gt by rw [hgt];exact HB4.out.size)
  have HGT:=Mw hgt;have HDE:=Mw hD;have HDL:=Mw hDl;clear hw5 hgt hD hDl hb45
  go_loopw [18,80] (fun vo vi wx=>∃ i o:Nat,vi=.int .i64 (i:Int)/\vo=.int .i64 (o:Int)/\i<=n/\Aside0 (o=fa c d i)/\Aside0 (Below w3.heap.size w3 wx)/\Aside0 (bm wx gR w3.heap.size n n pf qf (dl c d) (iH c d c2 e ws wc i))/\Aside0 (aA wx gt (bU D o))) (fun _ vi _=>(n-intOf vi).toNat)
  case atStart=>exact⟨0,0,rfl,rfl,by omega,⟨by simp [fa]⟩,HB5,HDB5,HZ⟩
  case round=>
   clear HB5 HZ HDB5;obtain⟨i,o,rfl,rfl,hi,HO,HB,HDB,HZ⟩:=hrel;by_cases hin:i<n;rotate_left
   ·have:n=i:=by omega
    subst this;have hZ:=HZ.out;rw [HO.out,<- HT.out,<- HDL.out,oT,<- HDE.out] at hZ;have hk:=HKK.out wr gt pv hZ (HV3.out.below HB.out (Mx _)) (HUP3.out.trans_below HB.out) (by rw [HGT.out];exact HUP4.out.size)
    rw [<- HT.out] at hk;clear hZ
    go_wp2_with fail
    refine hk.mono ?_;rintro e' w' ⟨xr,yr,rfl,hkk⟩
    go_wp2_with fail
    exact hkk
   have hD5:=HDB.out;have r0:=hD5.ptr (i:=i) hin hin;obtain⟨x,hx⟩:∃ x,dl c d i=x:=⟨_,rfl⟩;have hx3:x<=201:=by rw [<- hx];unfold dl;split<;>omega
   have hget:∀ k,k<x->D.getD (o+k) 0=(cB c d c2 e wc i).getD k 0:=fun k hk=>by
    rw [<- HDE.out,HO.out];exact En c d c2 e wc i k (by rw [hx];exact hk) n hin
   have hnext:o+x=fa c d (i+1):=by rw [qP,HO.out,hx]
   have hmono:=yh c d (i+1) n (by omega);have hTn:=HT.out;have hot:o+x<=t:=by omega
   have hbl0:=oU c d c2 e ws i;have hbl:=oU c d c2 e wc i;have hnr:=HCL.out.near i (by rw [HNN.out];exact hin)
   have hci:=yE c d c2 e ws wc i;have hcn:=Fv c d c2 e ws wc i;obtain⟨bx,hbx⟩:∃ bx,cB c d c2 e ws i=bx:=⟨_,rfl⟩;obtain⟨bw,hbw⟩:∃ bw,cB c d c2 e wc i=bw:=⟨_,rfl⟩;have hblk:=hD5.blk i hin;have hwd:=hD5.word i hin;have hsm0:=HCL.out.small i (by rw [HNN.out];exact hin)
   have hsm:=HCL.out.clean.small i (by rw [HNN.out];exact hin)
   have hrt:=HCL.out.clean.root i (by rw [HNN.out];exact hin)
   rw [hci] at hblk hwd;rw [hbx] at hblk hwd hsm0 hbl0 hnr hcn;rw [hbw] at hsm hrt hbl hget hnr hcn;rw [hx] at hblk hbl hbl0 hcn;rw [hbl0] at hblk;have kb:=wH _ (pf i) (x:Int) _ hblk;have kw:=CA _ (pf i) _ _ hblk;have hx1:x<=d+1:=by rw [<- hx];unfold dl;split<;>omega
   have kc:=Ft _ dd rs gf (qf i) (x+e) x bx bw (HDD3.out.below HB.out (Mx _)) hwd hsm0 hsm hbl0 hbl (by omega) (by omega) (by omega) (by omega) (fun i hi=>hrt i (by omega)) (by rw [Nat.add_sub_cancel_left];exact hnr)
   have HGET:=Mw hget;have HDB2:=Mw hcn;have hmx:∀ k,k<x->(eP bw bx x).getD k 0=bw.getD k 0:=fun k hk=>Fw bw bx x k hk (by omega)
   have HMX:=Mw hmx;have HML:=Mw (show (eP bw bx x).length=x+e by rw [tF bw bx x (by omega)];exact hbl0)
   have HBL:=Mw hbl;have HNX:=Mw hnext;have hq4:=HQL.out i hin;have hqg:qf i≠gt:=by rw [HGT.out];omega
   clear hD5 hx hget hnext hmono hTn hbl hbw hblk hwd hsm hrt hq4 hbl0 hnr hci hcn hbx hsm0 hmx
   go_wp2_with (first | (go_at_call 163;refine kb.mono ?_;rintro e' w' ⟨rfl,rfl⟩) | (go_at_call 164;refine kw.mono ?_;rintro e' w' ⟨rfl,rfl⟩) | (go_at_call 165;refine kc.mono ?_;rintro e' wy ⟨rfl,huy,hby⟩))
   have HBY:=Mw (HB.out.trans (Fx hby (HQF.out i hin) HB.out.size));have HZY:=Mw (show aA wy gt (bU D o) from (hby.block gt (Blk.lt HZ.out) (fun h=>hqg h.symm)).trans HZ.out);have HWY:=Mw huy;have HDY:=Mw (show bm wy gR w3.heap.size n n pf qf (dl c d) (iH c d c2 e ws wc (i+1)) by rw [HDB2.out.1];exact bm.turned HDB.out hin hby huy HDB2.out.2)
   clear hby huy kb kw kc r0 HDB2
   go_loopw [18,24] (fun vo vk wz=>∃ k:Nat,vk=.int .i64 (k:Int)/\vo=.int .i64 ((o+k:Nat):Int)/\k<=x/\Aside0 (Below w3.heap.size w3 wz)/\Aside0 (bm wz gR w3.heap.size n n pf qf (dl c d) (iH c d c2 e ws wc (i+1)))/\Aside0 (aA wz gt (bU D (o+k)))/\Aside0 (aA wz (qf i) (eP bw bx x))) (fun _ vk _=>(x-intOf vk).toNat)
   case atStart=>exact⟨0,rfl,rfl,by omega,HBY,HDY,HZY,HWY⟩
   case round=>
    clear HBY HZY HWY HB HZ HDY HDB;obtain⟨k,rfl,rfl,hk,HB,HDB,HZ,HW⟩:=hrel;by_cases hkx:k<x;rotate_left
    ·have:x=k:=by omega
     subst this
     go_wp2
     go_roundw
     case rel=>exact⟨i+1,o+x,by go_num,rfl,by omega,HNX,HB,HDB,HZ⟩
     case measure=>simp [intOf];omega
    obtain⟨y,hy⟩:∃ y,bw.getD k 0=y:=⟨_,rfl⟩;have r1:wr.cell? ⟨qf i,k,none⟩=some (.int .u8 (y:Int)):=by
     have:=aA.cell HW.out k (by rw [HML.out];omega)
     rw [HMX.out k hkx,hy] at this;exact this
    obtain⟨old,hold⟩:∃ old,(bU D (o+k)).getD (o+k) 0=old:=⟨_,rfl⟩;have z1:wr.cell? ⟨gt,o+k,none⟩=some (.int .u8 (old:Int)):=by
     have:=aA.cell HZ.out (o+k) (by rw [qN D _ (by rw [HDL.out];omega),HDL.out];omega)
     rw [hold] at this;exact this
    have z2:wr.frozen? ⟨gt,o+k,none⟩=false:=Blk.frozen HZ.out _;have HZ2:=Mw (show aA (wr.setCell ⟨gt,o+k,none⟩ (.int .u8 (y:Int))) gt (bU D (o+(k+1))) by
     have h1:=HZ.out.set (o+k) y;rw [<- hy,<- HGET.out k hkx,qO D (o+k) (by rw [HDL.out];omega),HGET.out k hkx,hy] at h1
     exact h1)
    have HW2:=Mw (show aA (wr.setCell ⟨gt,o+k,none⟩ (.int .u8 (y:Int))) (qf i) (eP bw bx x) from Blk.far (p:=⟨gt,o+k,none⟩) HW.out hqg _);have HDB2:=Mw (show bm (wr.setCell ⟨gt,o+k,none⟩ (.int .u8 (y:Int))) gR w3.heap.size n n pf qf (dl c d) (iH c d c2 e ws wc (i+1)) from bm.other HDB.out HZ.out (af.set _ _ _ _) (fun j hj=>by have:=HQL.out j hj;rw [HGT.out];omega))
    have HB2:=Mw (show Below w3.heap.size w3 (wr.setCell ⟨gt,o+k,none⟩ (.int .u8 (y:Int))) from Below.setc HB.out HGT3.out _);clear hy hold
    go_wp2
    go_roundw
    case rel=>exact⟨k+1,by go_num,by go_num,by omega,HB2,HDB2,HZ2,HW2⟩
    case measure=>simp [intOf];omega
end Go.Proofs.YtgccjgpdjkhpdaaGreat.B
