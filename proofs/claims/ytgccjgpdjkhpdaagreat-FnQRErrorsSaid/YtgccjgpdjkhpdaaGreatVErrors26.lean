import Derived.Deep.RegionWith
import Derived.Test.YtgccjgpdjkhpdaaGreatVErrors23
open Go.Proofs.YtgccjgpdjkhpdaaGreatW.PrintWords.Aside0 renaming mk→Mw
open Nat renaming le_trans→Mx,le_of_lt→My,lt_of_lt_of_le→Mz,pow_le_pow_right→MA
/-! Own texts of this claim, part 26. -/
namespace Go.Proofs.YtgccjgpdjkhpdaaGreat.B
open Go.RowKit Go.Proofs.YtgccjgpdjkhpdaaGreatW.PrintWords Go.Proofs.YtgccjgpdjkhpdaaGreatW.PrintLast Go.Proofs.YtgccjgpdjkhpdaaGreatW.PrintMore
set_option linter.unusedVariables false
set_option linter.unusedSimpArgs false
def fv (w:World)(g n c l:Nat)(R:Option PS)(e:Ending)(w':World):Prop :=
 match R with
 | some st=>∃ r vs vx qs,e=.returned (.tuple #[.pointer (some ⟨r,0,none⟩),.nilIface])/\w.heap.size<=r/\
   Blk w' r 194 #[.slice (some ⟨g,0,none⟩) n c,.int .i64 (8*(n:Int)),.string (strOfNums st.out),vs,.string (ip l),.int .i64 0,.int .i64 0,.nilIface,.int .i64 st.par,.int .i64 st.sq,.int .i64 (if st.fc then 3 else 1)]/\
   im w' w.heap.size vs vx qs st.segs/\Below w.heap.size w w'
 | none=>∃ x,e=.returned (.tuple #[.pointer none,.iface 208 x])/\Below w.heap.size w w'
theorem fv.bad {w w':World}{g n c l:Nat}{R:Option PS}{x:Value}(h:R=none)(hb:Below w.heap.size w w'):fv w g n c l R (.returned (.tuple #[.pointer none,.iface 208 x])) w':=by
 subst h;exact⟨x,rfl,hb⟩
theorem fv.fine {w w' wr:World}{g n c l r s B0:Nat}{bs:List Nat}{pos:Nat}{R:Option PS}{v11 v12 vs:Value}{qs:List Nat}{out:List Int}{segs:List (List Int)}{fc:Bool}{sq par md:Int}{pos':Nat}(h:R=some ⟨pos',out,segs,fc,sq,par⟩)(hB:B0=w.heap.size)
  (hM:cU w wr B0 s g bs pos v11 v12 out qs segs) (hvs:(vs=v12)\/(segs.length=0/\vs=.slice none 0 0)) (hb:Below wr.heap.size wr w') (hr:B0<=r) (hmd:md=if fc then 3 else 1)
  (hk:Blk w' r 194 #[.slice (some ⟨g,0,none⟩) n c,.int .i64 (8*(n:Int)),.string (strOfNums out),vs,.string (ip l),.int .i64 0,.int .i64 0,.nilIface,.int .i64 par,.int .i64 sq,.int .i64 md]) :
  fv w g n c l R (.returned (.tuple #[.pointer (some ⟨r,0,none⟩),.nilIface])) w':=by
 subst h hB hmd;have hM':=hM.under hb;refine⟨r,vs,v11,qs,rfl,hr,hk,?_,hM'.bel⟩;rcases hvs with rfl | ⟨h0,rfl⟩
 ·exact hM'.segs
 obtain⟨h1,h2,h3⟩:=hM'.segs;refine⟨h1,⟨by rw [rp _ _ h1,Nat.mul_one],.inl ⟨rfl,h0⟩⟩,h3⟩
theorem ib:(4:Int)=((4:Nat):Int):=rfl
theorem tN:(1:Int)=((1:Nat):Int):=rfl
theorem tO:(2:Int)=((2:Nat):Int):=rfl
theorem tP:(4:Int)=((4:Nat):Int):=rfl
theorem ze:(8:Int)=((8:Nat):Int):=rfl
theorem gX {w wr:World}{B0:Nat}(h:Below B0 w wr)(hB:B0=w.heap.size:=by assumption):Below w.heap.size w wr:=hB ▸ h
set_option maxHeartbeats 8000000 in
set_option maxRecDepth 100000 in
theorem Gk (w:World)(g n c pv l v:Nat)(bs:List Nat)(hint:Value)(R:Option PS)(hU:eQ w g bs)(hcp:iI w g=c)(hn:bs.length=n)(hV:bT w pv (v:Int) (dw v))(hv:1<=v/\v<=40)(hl4:l<4)(hx:ab 8 bs)(hl:bs.length<=100000)
  (hR:Rd bs v ⟨0,[],[],false,-1,-1⟩ R) :
  Calls Tryz.prog 61 #[.slice (some ⟨g,0,none⟩) n c,.pointer (some ⟨pv,0,none⟩),.int .i64 (l:Int),hint] w (fv w g n c l R):=by
 obtain⟨B0,hB0⟩:∃ B0,B0=w.heap.size:=⟨_,rfl⟩;obtain⟨wa,hwa⟩:∃ wa,wa=w.alloc (.cells #[.slice (some ⟨g,0,none⟩) n c,.int .i64 0,.int .i64 0] 226):=⟨_,rfl⟩;have kn:Calls Tryz.prog 105 #[.slice (some ⟨g,0,none⟩) n c] w fun e w'=>e=.returned (.pointer (some ⟨B0,0,none⟩))/\wa=w':=by
  refine (FH w g n c).mono ?_;rintro e w' ⟨rfl,rfl⟩;exact⟨by rw [hB0],hwa⟩
 have hzs:wa.heap.size=B0+1:=by rw [hwa,hB0];simp
 obtain⟨i5,hi5,hz5,hs5,hb5⟩:=info_parts F.cS;obtain⟨wb,hmb,hob,hgb⟩:=run_makeSlice_owned (P:=Tryz.prog) (w:=wa) B0 26 5 i5 (.int .u8 0) 1 Tryz.underlying26 hi5 hz5 hs5 .i64 .i64 50 (by omega) (by rw [hb5];omega) (by simp [maxLen]) (by omega)
 obtain⟨i6,hi6,hz6,hs6,hb6⟩:=info_parts ru;have hbz:=hgb.size;obtain⟨wc,hmc,hoc,hgc⟩:=run_makeSlice_owned (P:=Tryz.prog) (w:=wb) B0 27 26 i6 (.slice none 0 0) 1 Tryz.underlying27 hi6 hz6 hs6 .i64 .i64 1 (by omega) (by rw [hb6];omega) (by simp [maxLen]) (by omega)
 have hM0:cU w wc B0 B0 g bs 0 (.slice (some ⟨wa.heap.size,0,none⟩) 0 50) (.slice (some ⟨wb.heap.size,0,none⟩) 0 1) [] [] []:=by
  have h1:Blk wa B0 226 #[.slice (some ⟨g,0,none⟩) bs.length (iI wa g),.int .i64 ((0/8:Nat):Int),.int .i64 ((0%8:Nat):Int)]:=by rw [hwa,rh (Below.heap_alloc w _ g hU.lt),hcp,hB0,hn];exact Blk.new _ _ _
  have h2:eQ wa g bs:=by rw [hwa];exact hU.move (Below.heap_alloc w _ g hU.lt)
  have mv:∀ k,k<wa.heap.size->wc.heap[k]? = wa.heap[k]?:=fun k hk=>(hgc.block k (by omega) (by simp)).trans (hgb.block k hk (by simp))
  refine⟨?_,⟨rfl,hoc,fun i hi=>absurd hi (Nat.not_lt_zero _)⟩,⟨by rw [rh (mv _ h2.lt)];exact (mv _ h1.lt).trans h1,h2.move (mv _ h2.lt)⟩,?_,?_⟩
  ·exact ei hob fun k hk=>by
    obtain⟨cs,hc⟩:=eM hob k hk;exact hgc.block k hc.lt (by simp)
  rotate_left
  ·have:=hgc.size;omega
  have hwb:Below B0 w wa:=by rw [hwa,hB0];exact ai (Below.refl _ _) _
  exact⟨hgc.os.trans (hgb.os.trans hwb.os),hgc.tape.trans (hgb.tape.trans hwb.tape),hgc.output.trans (hgb.output.trans hwb.output),Mx hwb.size (Mx hgb.size hgc.size),fun k hk=>(mv k (by omega)).trans (hwb.block k hk)⟩
 have hgB:g<B0:=by rw [hB0];exact hU.lt
 have HM:=Mw hM0;have HR:=Mw hR;have HF:=Mw (show (⟨0,[],[],false,-1,-1⟩:PS).Fits bs.length from ⟨Nat.zero_le _,Nat.le_refl _,Nat.le_refl _⟩);have HX:=Mw hx;have HLN:=Mw hl;have HV:=Mw hV;have HVV:=Mw hv;have HNN:=Mw hn;have HB0:=Mw hB0;have HSB:=Mw (Nat.le_refl B0);obtain⟨va,hva⟩:∃ va,va=(Value.slice (some ⟨wa.heap.size,0,none⟩) 0 50):=⟨_,rfl⟩;obtain⟨vb,hvb⟩:∃ vb,vb=(Value.slice (some ⟨wb.heap.size,0,none⟩) 0 1):=⟨_,rfl⟩;rw [<- hva,<- hvb] at HM;rw [<- hva,show ((50:Nat):Int)=50 from rfl] at hmb;rw [<- hvb,show ((1:Nat):Int)=1 from rfl] at hmc;clear hU hcp hn hV hv hx hl hR hB0 hwa hzs hi5 hz5 hs5 hb5 hob hgb hi6 hz6 hs6 hb6 hbz hoc hgc hM0 hva hvb
 go_enter Tryz.func61,Tryz.ntmps61
 go_wp2_with (go_at_call 105;refine kn.mono ?_;rintro e w' ⟨rfl,rfl⟩)
 clear hmb hmc kn
 go_loopw [11,12,13,14,16,17,18,19] (fun v11 v12 v13 v14 v16 v17 v18 v19 wr=>∃ (pos:Nat) (out:List Int) (segs:List (List Int)) (fc:Bool) (sq par:Int) (qs:List Nat),v13=.int .i64 sq/\v14=.int .i64 par/\v16=.pointer none/\v17=.bool fc/\v18=.bool fc/\v19=.bool false/\Aside0 (cU w wr B0 B0 g bs pos v11 v12 out qs segs)/\Aside0 (Rd bs v ⟨pos,out,segs,fc,sq,par⟩ R)/\Aside0 ((⟨pos,out,segs,fc,sq,par⟩:PS).Fits bs.length)) (fun _ _ _ _ _ _ _ _ wr=>8*bs.length-tK wr B0)
 case atStart=>exact⟨0,[],[],false,-1,-1,[],rfl,rfl,rfl,rfl,rfl,rfl,HM,HR,HF⟩
 case round=>
  clear HM HR HF;obtain⟨pos,out,segs,fc,sq,par,qs,rfl,rfl,rfl,rfl,rfl,rfl,HM,HR,HF⟩:=hrel;have HPOS:=Mw (nF HM.out.src);have HPB:=Mw (show pos<=8*bs.length from HF.out.pos);have HOL:=Mw (show out.length<=1000000 by have h1:=HF.out.out;have h2:=HF.out.pos;have:=HLN.out;dsimp only at h1 h2;omega)
  have HSL:=Mw (show segs.length<=1000000 by have h1:=HF.out.segs;have h2:=HF.out.pos;have:=HLN.out;dsimp only at h1 h2;omega)
  obtain⟨r,hr⟩:∃ r,8*bs.length-pos=r:=⟨_,rfl⟩;have H:=Rd.inv HR.out HF.out;dsimp only at H;clear HR HF;rcases H with⟨h1,hRe⟩ | ⟨h1,h2,hRe⟩ | ⟨h1,h2,st',rfl,hR',hF'⟩ | ⟨h1,h2,st',rfl,hR',hF'⟩ | ⟨m,h1,h2,hm,h3,hRe⟩ | ⟨h1,h2,ys,p,h3,st',rfl,hR',hF',hlt⟩ | ⟨h1,h2,h3,hRe⟩ | ⟨h1,h2,ys,p,h3,st',rfl,hR',hF',hlt⟩ | ⟨h1,h2,h3,hRe⟩ | ⟨h1,h2,n2,h3,h4,st',rfl,hR',hF'⟩ | ⟨h1,h2,n2,h3,h4,hRe⟩
  ·have hr4:r<4:=by omega
   have HRE:=Mw hRe;have HRQ:=Mw hr;clear hr h1 hRe;obtain⟨Av,cv,hv12⟩:=eh HM.out.segs.own;obtain⟨N,hN⟩:∃ N,segs.length=N:=⟨_,rfl⟩;rw [hN] at hv12;subst hv12;have hNb:N<=1000000:=by have:=HSL.out;omega
   have HNE:=Mw hN;have hnb:n<=1000000:=by have:=HNN.out;have:=HLN.out;omega
   clear hN;cases fc
   all_goals
    by_cases hN0:N=0
    ·subst hN0
     go_wp2_with (first | (go_at_call 106;(with_reducible refine (gz HM.out HPB.out HLN.out HRQ.out).mono ?_);rintro e w' ⟨rfl,hM'⟩;have nM:=Mw hM';clear HM hM';have HM:=nM;clear nM))
     have HCV:=Mw (fun (W:World) (hb:Below w'.heap.size w' W)=>oh (P:=Tryz.prog) (e':=5) Tryz.underlying26 Tryz.underlying5 Tryz.underlying9 (mL HM.out.own hb));have hb0:Below w'.heap.size w' w':=Below.refl _ _;have hcv1:=HCV.out _ hb0;have hcv2:=HCV.out _ (jM hb0);clear hb0
     go_region_with (first | (go_at_call 118;refine (rv _ l hl4).mono ?_;rintro e w2 ⟨rfl,rfl⟩) | (go_at_call 117;refine (rx _ g n c _ _ _ _ _ _ _ _ hnb).mono ?_;rintro e w2 ⟨rfl,rfl⟩))
     all_goals
      clear hcv1 hcv2
      go_wp2
      go_ret2
      exact fv.fine HRE.out HB0.out HM.out (.inr ⟨HNE.out,rfl⟩) (ai (jM (Below.refl _ _)) _) HM.out.sz rfl (Blk.new _ _ _)
    have hN1:((N:Int)==0)=false:=beq_eq_false_iff_ne.2 (by omega)
    go_wp2_with (first | (go_at_call 106;(with_reducible refine (gz HM.out HPB.out HLN.out HRQ.out).mono ?_);rintro e w' ⟨rfl,hM'⟩;have nM:=Mw hM';clear HM hM';have HM:=nM;clear nM))
    have HCV:=Mw (fun (W:World) (hb:Below w'.heap.size w' W)=>oh (P:=Tryz.prog) (e':=5) Tryz.underlying26 Tryz.underlying5 Tryz.underlying9 (mL HM.out.own hb));have hb0:Below w'.heap.size w' w':=Below.refl _ _;have hcv1:=HCV.out _ hb0;have hcv2:=HCV.out _ (jM hb0);clear hb0
    go_region_with (first | (go_at_call 118;refine (rv _ l hl4).mono ?_;rintro e w2 ⟨rfl,rfl⟩) | (go_at_call 117;refine (rx _ g n c _ _ _ _ _ _ _ _ hnb).mono ?_;rintro e w2 ⟨rfl,rfl⟩))
    all_goals
     clear hcv1 hcv2
     go_wp2
     go_ret2
     exact fv.fine HRE.out HB0.out HM.out (.inl rfl) (ai (jM (Below.refl _ _)) _) HM.out.sz rfl (Blk.new _ _ _)
  ·have hr4:4<=r:=by omega
   have HRE:=Mw hRe;have HRQ:=Mw hr;have HMO:=Mw h2;have HP4:=Mw h1;clear hr h1 hRe h2;obtain⟨Av,cv,hv12⟩:=eh HM.out.segs.own;obtain⟨N,hN⟩:∃ N,segs.length=N:=⟨_,rfl⟩;rw [hN] at hv12;subst hv12;have hNb:N<=1000000:=by have:=HSL.out;omega
   have HNE:=Mw hN;have hnb:n<=1000000:=by have:=HNN.out;have:=HLN.out;omega
   clear hN;cases fc
   all_goals
    by_cases hN0:N=0
    ·subst hN0
     go_wp2_with (first | (go_at_call 106;(with_reducible refine (gz HM.out HPB.out HLN.out HRQ.out).mono ?_);rintro e w' ⟨rfl,hM'⟩;have nM:=Mw hM';clear HM hM';have HM:=nM;clear nM) | (go_at_call 107;(with_reducible refine (eH (k:=4) HM.out HMO.out ib HP4.out HLN.out (by decide) (by decide) HX.out HSB.out).mono ?_);rintro e w' ⟨rfl,hM'⟩;have nM:=Mw hM';clear HM hM';have HM:=nM;clear nM) | (go_at_call 108;refine (iJ _ _ (by decide)).mono ?_;rintro e w2 ⟨rfl,rfl⟩))
     have HCV:=Mw (fun (W:World) (hb:Below w'.heap.size w' W)=>oh (P:=Tryz.prog) (e':=5) Tryz.underlying26 Tryz.underlying5 Tryz.underlying9 (mL HM.out.own hb));have hb0:Below w'.heap.size w' w':=Below.refl _ _;have hcv1:=HCV.out _ hb0;have hcv2:=HCV.out _ (jM hb0);clear hb0
     go_region_with (first | (go_at_call 118;refine (rv _ l hl4).mono ?_;rintro e w2 ⟨rfl,rfl⟩) | (go_at_call 117;refine (rx _ g n c _ _ _ _ _ _ _ _ hnb).mono ?_;rintro e w2 ⟨rfl,rfl⟩))
     all_goals
      clear hcv1 hcv2
      go_wp2
      go_ret2
      exact fv.fine HRE.out HB0.out HM.out (.inr ⟨HNE.out,rfl⟩) (ai (jM (Below.refl _ _)) _) HM.out.sz rfl (Blk.new _ _ _)
    have hN1:((N:Int)==0)=false:=beq_eq_false_iff_ne.2 (by omega)
    go_wp2_with (first | (go_at_call 106;(with_reducible refine (gz HM.out HPB.out HLN.out HRQ.out).mono ?_);rintro e w' ⟨rfl,hM'⟩;have nM:=Mw hM';clear HM hM';have HM:=nM;clear nM) | (go_at_call 107;(with_reducible refine (eH (k:=4) HM.out HMO.out ib HP4.out HLN.out (by decide) (by decide) HX.out HSB.out).mono ?_);rintro e w' ⟨rfl,hM'⟩;have nM:=Mw hM';clear HM hM';have HM:=nM;clear nM) | (go_at_call 108;refine (iJ _ _ (by decide)).mono ?_;rintro e w2 ⟨rfl,rfl⟩))
    have HCV:=Mw (fun (W:World) (hb:Below w'.heap.size w' W)=>oh (P:=Tryz.prog) (e':=5) Tryz.underlying26 Tryz.underlying5 Tryz.underlying9 (mL HM.out.own hb));have hb0:Below w'.heap.size w' w':=Below.refl _ _;have hcv1:=HCV.out _ hb0;have hcv2:=HCV.out _ (jM hb0);clear hb0
    go_region_with (first | (go_at_call 118;refine (rv _ l hl4).mono ?_;rintro e w2 ⟨rfl,rfl⟩) | (go_at_call 117;refine (rx _ g n c _ _ _ _ _ _ _ _ hnb).mono ?_;rintro e w2 ⟨rfl,rfl⟩))
    all_goals
     clear hcv1 hcv2
     go_wp2
     go_ret2
     exact fv.fine HRE.out HB0.out HM.out (.inl rfl) (ai (jM (Below.refl _ _)) _) HM.out.sz rfl (Blk.new _ _ _)
  ·have hr4:4<=r:=by omega
   have HRQ:=Mw hr;have HMO:=Mw h2;have HP4:=Mw h1;have HR2:=Mw hR';have HF2:=Mw hF';clear hr h1 h2 hR' hF'
   go_wp2_with (first | (go_at_call 106;(with_reducible refine (gz HM.out HPB.out HLN.out HRQ.out).mono ?_);rintro e w' ⟨rfl,hM'⟩;have nM:=Mw hM';clear HM hM';have HM:=nM;clear nM) | (go_at_call 107;(with_reducible refine (eH (k:=4) HM.out HMO.out ib HP4.out HLN.out (by decide) (by decide) HX.out HSB.out).mono ?_);rintro e w' ⟨rfl,hM'⟩;have nM:=Mw hM';clear HM hM';have HM:=nM;clear nM) | (go_at_call 108;refine (iJ _ _ (by decide)).mono ?_;rintro e w2 ⟨rfl,rfl⟩))
   go_roundw
   case rel=>exact⟨_,_,_,_,_,_,qs,rfl,rfl,rfl,rfl,rfl,rfl,HM,HR2,HF2⟩
   case measure=>rw [nF HM.out.src,HPOS.out];have:=HP4.out;omega
  ·have hr4:4<=r:=by omega
   have HRQ:=Mw hr;have HMO:=Mw h2;have HP4:=Mw (show pos+4<=8*bs.length by omega);obtain⟨n1,hn1⟩:∃ n1,aq bs (pos+4) 8=n1:=⟨_,rfl⟩;obtain⟨n2,hn2⟩:∃ n2,aq bs (pos+12) 8=n2:=⟨_,rfl⟩;rw [hn1,hn2] at hR' hF';have HN1:=Mw hn1;have HN2:=Mw (show aq bs (pos+4+8) 8=n2 by rw [Nat.add_assoc];exact hn2)
   have HPC1:=Mw (show pos+4+8<=8*bs.length by omega);have HPC2:=Mw (show pos+4+8+8<=8*bs.length by omega);have HR2:=Mw (show Rd bs v ⟨pos+4+8+8,out,segs,fc,n1,n2⟩ R by rw [show pos+4+8+8=pos+20 by omega];exact hR')
   have HF2:=Mw (show (⟨pos+4+8+8,out,segs,fc,n1,n2⟩:PS).Fits bs.length by rw [show pos+4+8+8=pos+20 by omega];exact hF')
   clear hr h1 h2 hR' hF' hn1 hn2
   go_wp2_with (first | (go_at_call 106;(with_reducible refine (gz HM.out HPB.out HLN.out HRQ.out).mono ?_);rintro e w' ⟨rfl,hM'⟩;have nM:=Mw hM';clear HM hM';have HM:=nM;clear nM) | (go_at_call 107;(with_reducible refine (eH (k:=4) HM.out HMO.out ib HP4.out HLN.out (by decide) (by decide) HX.out HSB.out).mono ?_);rintro e w' ⟨rfl,hM'⟩;have nM:=Mw hM';clear HM hM';have HM:=nM;clear nM) | (go_at_call 108;refine (iJ _ _ (by decide)).mono ?_;rintro e w2 ⟨rfl,rfl⟩) | (go_at_call 107;(with_reducible refine (eH (k:=8) HM.out HN1.out ze HPC1.out HLN.out (by decide) (by decide) HX.out HSB.out).mono ?_);rintro e w' ⟨rfl,hM'⟩;have nM:=Mw hM';clear HM hM';have HM:=nM;clear nM) | (go_at_call 107;(with_reducible refine (eH (k:=8) HM.out HN2.out ze HPC2.out HLN.out (by decide) (by decide) HX.out HSB.out).mono ?_);rintro e w' ⟨rfl,hM'⟩;have nM:=Mw hM';clear HM hM';have HM:=nM;clear nM))
   go_roundw
   case rel=>exact⟨_,_,_,_,_,_,qs,rfl,rfl,rfl,rfl,rfl,rfl,HM,HR2,HF2⟩
   case measure=>rw [nF HM.out.src,HPOS.out];have:=HPC2.out;omega
  ·have hr4:4<=r:=by omega
   have HRQ:=Mw hr;have HMO:=Mw h2;have HP4:=Mw h1;have HPC4:=Mw h1;have HPC:=Mw h3;have HRE:=Mw hRe;clear hr h1 h2 h3 hRe;rcases hm with rfl | rfl | rfl
   ·go_wp2_with (first | (go_at_call 106;(with_reducible refine (gz HM.out HPB.out HLN.out HRQ.out).mono ?_);rintro e w' ⟨rfl,hM'⟩;have nM:=Mw hM';clear HM hM';have HM:=nM;clear nM) | (go_at_call 107;(with_reducible refine (eH (k:=4) HM.out HMO.out ib HP4.out HLN.out (by decide) (by decide) HX.out HSB.out).mono ?_);rintro e w' ⟨rfl,hM'⟩;have nM:=Mw hM';clear HM hM';have HM:=nM;clear nM) | (go_at_call 108;refine (iJ _ _ (by decide)).mono ?_;rintro e w2 ⟨rfl,rfl⟩) | (go_at_call 111;(with_reducible refine (kU (m:=1) HM.out HV.out (gX HM.out.bel HB0.out) HVV.out (by decide) tN).mono ?_);rintro e w' ⟨rfl,hM'⟩;have nM:=Mw hM';clear HM hM';have HM:=nM;clear nM) | (go_at_call 107;(with_reducible refine (tH HM.out HPC4.out HPC.out HLN.out (bQ _ _).1 (Mx (bQ _ _).2 (by decide))).mono ?_);rintro e w' ⟨⟨x0,rfl⟩,hB',hZ'⟩;have nB:=Mw hB';have nZ:=Mw hZ';clear HM hB' hZ') | (go_at_call 87;refine (tI nB.out nZ.out).mono ?_;rintro e w' ⟨⟨y0,rfl⟩,hB'⟩;have nB2:=Mw hB';clear hB'))
    go_ret2
    exact fv.bad HRE.out (gX nB2.out HB0.out)
   ·go_wp2_with (first | (go_at_call 106;(with_reducible refine (gz HM.out HPB.out HLN.out HRQ.out).mono ?_);rintro e w' ⟨rfl,hM'⟩;have nM:=Mw hM';clear HM hM';have HM:=nM;clear nM) | (go_at_call 107;(with_reducible refine (eH (k:=4) HM.out HMO.out ib HP4.out HLN.out (by decide) (by decide) HX.out HSB.out).mono ?_);rintro e w' ⟨rfl,hM'⟩;have nM:=Mw hM';clear HM hM';have HM:=nM;clear nM) | (go_at_call 108;refine (iJ _ _ (by decide)).mono ?_;rintro e w2 ⟨rfl,rfl⟩) | (go_at_call 111;(with_reducible refine (kU (m:=2) HM.out HV.out (gX HM.out.bel HB0.out) HVV.out (by decide) tO).mono ?_);rintro e w' ⟨rfl,hM'⟩;have nM:=Mw hM';clear HM hM';have HM:=nM;clear nM) | (go_at_call 107;(with_reducible refine (tH HM.out HPC4.out HPC.out HLN.out (bQ _ _).1 (Mx (bQ _ _).2 (by decide))).mono ?_);rintro e w' ⟨⟨x0,rfl⟩,hB',hZ'⟩;have nB:=Mw hB';have nZ:=Mw hZ';clear HM hB' hZ') | (go_at_call 87;refine (tI nB.out nZ.out).mono ?_;rintro e w' ⟨⟨y0,rfl⟩,hB'⟩;have nB2:=Mw hB';clear hB'))
    go_ret2
    exact fv.bad HRE.out (gX nB2.out HB0.out)
   go_wp2_with (first | (go_at_call 106;(with_reducible refine (gz HM.out HPB.out HLN.out HRQ.out).mono ?_);rintro e w' ⟨rfl,hM'⟩;have nM:=Mw hM';clear HM hM';have HM:=nM;clear nM) | (go_at_call 107;(with_reducible refine (eH (k:=4) HM.out HMO.out ib HP4.out HLN.out (by decide) (by decide) HX.out HSB.out).mono ?_);rintro e w' ⟨rfl,hM'⟩;have nM:=Mw hM';clear HM hM';have HM:=nM;clear nM) | (go_at_call 108;refine (iJ _ _ (by decide)).mono ?_;rintro e w2 ⟨rfl,rfl⟩) | (go_at_call 111;(with_reducible refine (kU (m:=4) HM.out HV.out (gX HM.out.bel HB0.out) HVV.out (by decide) tP).mono ?_);rintro e w' ⟨rfl,hM'⟩;have nM:=Mw hM';clear HM hM';have HM:=nM;clear nM) | (go_at_call 107;(with_reducible refine (tH HM.out HPC4.out HPC.out HLN.out (bQ _ _).1 (Mx (bQ _ _).2 (by decide))).mono ?_);rintro e w' ⟨⟨x0,rfl⟩,hB',hZ'⟩;have nB:=Mw hB';have nZ:=Mw hZ';clear HM hB' hZ') | (go_at_call 87;refine (tI nB.out nZ.out).mono ?_;rintro e w' ⟨⟨y0,rfl⟩,hB'⟩;have nB2:=Mw hB';clear hB'))
   go_ret2
   exact fv.bad HRE.out (gX nB2.out HB0.out)
  ·have hr4:4<=r:=by have:=bQ 1 v;omega
   have HRQ:=Mw hr;have HMO:=Mw h1;have HP4:=Mw (show pos+4<=8*bs.length by omega);have HPC:=Mw h2;obtain⟨cn,hcn⟩:∃ cn,aq bs (pos+4) (aw 1 v)=cn:=⟨_,rfl⟩
   try rw [hcn] at h3
   try rw [hcn] at h4
   try rw [hcn] at hR' hF'
   have hc5:cn<=100000:=by rw [<- hcn];exact My (Mz (gy _ _ _) (Mx (MA (by decide) (bQ 1 v).2) (by decide)))
   have HCN:=Mw hcn;have HC5:=Mw hc5;clear hr h1 h2 hcn hc5;have HN:=Mw h3;have HR2:=Mw hR';have HF2:=Mw hF';have HLT:=Mw hlt;clear h3 hR' hF' hlt
   go_wp2_with (first | (go_at_call 106;(with_reducible refine (gz HM.out HPB.out HLN.out HRQ.out).mono ?_);rintro e w' ⟨rfl,hM'⟩;have nM:=Mw hM';clear HM hM';have HM:=nM;clear nM) | (go_at_call 107;(with_reducible refine (eH (k:=4) HM.out HMO.out ib HP4.out HLN.out (by decide) (by decide) HX.out HSB.out).mono ?_);rintro e w' ⟨rfl,hM'⟩;have nM:=Mw hM';clear HM hM';have HM:=nM;clear nM) | (go_at_call 108;refine (iJ _ _ (by decide)).mono ?_;rintro e w2 ⟨rfl,rfl⟩) | (go_at_call 111;(with_reducible refine (kU (m:=1) HM.out HV.out (gX HM.out.bel HB0.out) HVV.out (by decide) tN).mono ?_);rintro e w' ⟨rfl,hM'⟩;have nM:=Mw hM';clear HM hM';have HM:=nM;clear nM) | (go_at_call 107;(with_reducible refine (eH HM.out HCN.out rfl HPC.out HLN.out (bQ _ _).1 (Mx (bQ _ _).2 (by decide)) HX.out HSB.out).mono ?_);rintro e w' ⟨rfl,hM'⟩;have nM:=Mw hM';clear HM hM';have HM:=nM;clear nM) | (go_at_call 113;(with_reducible refine (numP HM.out HN.out hgB HSB.out HX.out HLN.out HC5.out HOL.out HPC.out).mono ?_);rintro e w' ⟨v',rfl,hM'⟩;have nM:=Mw hM';clear HM hM';have HM:=nM;clear nM))
   go_roundw
   case rel=>exact⟨_,_,_,_,_,_,qs,rfl,rfl,rfl,rfl,rfl,rfl,HM,HR2,HF2⟩
   case measure=>rw [nF HM.out.src,HPOS.out];have:=HLT.out;have:=HF2.out.pos;dsimp only at this;omega
  ·have hr4:4<=r:=by have:=bQ 1 v;omega
   have HRQ:=Mw hr;have HMO:=Mw h1;have HP4:=Mw (show pos+4<=8*bs.length by omega);have HPC:=Mw h2;obtain⟨cn,hcn⟩:∃ cn,aq bs (pos+4) (aw 1 v)=cn:=⟨_,rfl⟩
   try rw [hcn] at h3
   try rw [hcn] at h4
   try rw [hcn] at hR' hF'
   have hc5:cn<=100000:=by rw [<- hcn];exact My (Mz (gy _ _ _) (Mx (MA (by decide) (bQ 1 v).2) (by decide)))
   have HCN:=Mw hcn;have HC5:=Mw hc5;clear hr h1 h2 hcn hc5;have HN:=Mw h3;have HRE:=Mw hRe;clear h3 hRe
   go_wp2_with (first | (go_at_call 106;(with_reducible refine (gz HM.out HPB.out HLN.out HRQ.out).mono ?_);rintro e w' ⟨rfl,hM'⟩;have nM:=Mw hM';clear HM hM';have HM:=nM;clear nM) | (go_at_call 107;(with_reducible refine (eH (k:=4) HM.out HMO.out ib HP4.out HLN.out (by decide) (by decide) HX.out HSB.out).mono ?_);rintro e w' ⟨rfl,hM'⟩;have nM:=Mw hM';clear HM hM';have HM:=nM;clear nM) | (go_at_call 108;refine (iJ _ _ (by decide)).mono ?_;rintro e w2 ⟨rfl,rfl⟩) | (go_at_call 111;(with_reducible refine (kU (m:=1) HM.out HV.out (gX HM.out.bel HB0.out) HVV.out (by decide) tN).mono ?_);rintro e w' ⟨rfl,hM'⟩;have nM:=Mw hM';clear HM hM';have HM:=nM;clear nM) | (go_at_call 107;(with_reducible refine (eH HM.out HCN.out rfl HPC.out HLN.out (bQ _ _).1 (Mx (bQ _ _).2 (by decide)) HX.out HSB.out).mono ?_);rintro e w' ⟨rfl,hM'⟩;have nM:=Mw hM';clear HM hM';have HM:=nM;clear nM) | (go_at_call 113;(with_reducible refine (FV HM.out HN.out hgB HSB.out HX.out HLN.out HC5.out HOL.out HPC.out).mono ?_);rintro e w' ⟨v',x0,rfl,hB'⟩;have nB2:=Mw hB';clear HM hB'))
   go_ret2
   exact fv.bad HRE.out (gX nB2.out HB0.out)
  ·have hr4:4<=r:=by have:=bQ 2 v;omega
   have HRQ:=Mw hr;have HMO:=Mw h1;have HP4:=Mw (show pos+4<=8*bs.length by omega);have HPC:=Mw h2;obtain⟨cn,hcn⟩:∃ cn,aq bs (pos+4) (aw 2 v)=cn:=⟨_,rfl⟩
   try rw [hcn] at h3
   try rw [hcn] at h4
   try rw [hcn] at hR' hF'
   have hc5:cn<=100000:=by rw [<- hcn];exact My (Mz (gy _ _ _) (Mx (MA (by decide) (bQ 2 v).2) (by decide)))
   have HCN:=Mw hcn;have HC5:=Mw hc5;clear hr h1 h2 hcn hc5;have HN:=Mw h3;have HR2:=Mw hR';have HF2:=Mw hF';have HLT:=Mw hlt;clear h3 hR' hF' hlt
   go_wp2_with (first | (go_at_call 106;(with_reducible refine (gz HM.out HPB.out HLN.out HRQ.out).mono ?_);rintro e w' ⟨rfl,hM'⟩;have nM:=Mw hM';clear HM hM';have HM:=nM;clear nM) | (go_at_call 107;(with_reducible refine (eH (k:=4) HM.out HMO.out ib HP4.out HLN.out (by decide) (by decide) HX.out HSB.out).mono ?_);rintro e w' ⟨rfl,hM'⟩;have nM:=Mw hM';clear HM hM';have HM:=nM;clear nM) | (go_at_call 108;refine (iJ _ _ (by decide)).mono ?_;rintro e w2 ⟨rfl,rfl⟩) | (go_at_call 111;(with_reducible refine (kU (m:=2) HM.out HV.out (gX HM.out.bel HB0.out) HVV.out (by decide) tO).mono ?_);rintro e w' ⟨rfl,hM'⟩;have nM:=Mw hM';clear HM hM';have HM:=nM;clear nM) | (go_at_call 107;(with_reducible refine (eH HM.out HCN.out rfl HPC.out HLN.out (bQ _ _).1 (Mx (bQ _ _).2 (by decide)) HX.out HSB.out).mono ?_);rintro e w' ⟨rfl,hM'⟩;have nM:=Mw hM';clear HM hM';have HM:=nM;clear nM) | (go_at_call 114;(with_reducible refine (alP fc HM.out HN.out rfl hgB HSB.out HX.out HLN.out HC5.out HOL.out HPC.out).mono ?_);rintro e w' ⟨v',rfl,hM'⟩;have nM:=Mw hM';clear HM hM';have HM:=nM;clear nM))
   go_roundw
   case rel=>exact⟨_,_,_,_,_,_,qs,rfl,rfl,rfl,rfl,rfl,rfl,HM,HR2,HF2⟩
   case measure=>rw [nF HM.out.src,HPOS.out];have:=HLT.out;have:=HF2.out.pos;dsimp only at this;omega
  ·have hr4:4<=r:=by have:=bQ 2 v;omega
   have HRQ:=Mw hr;have HMO:=Mw h1;have HP4:=Mw (show pos+4<=8*bs.length by omega);have HPC:=Mw h2;obtain⟨cn,hcn⟩:∃ cn,aq bs (pos+4) (aw 2 v)=cn:=⟨_,rfl⟩
   try rw [hcn] at h3
   try rw [hcn] at h4
   try rw [hcn] at hR' hF'
   have hc5:cn<=100000:=by rw [<- hcn];exact My (Mz (gy _ _ _) (Mx (MA (by decide) (bQ 2 v).2) (by decide)))
   have HCN:=Mw hcn;have HC5:=Mw hc5;clear hr h1 h2 hcn hc5;have HN:=Mw h3;have HRE:=Mw hRe;clear h3 hRe
   go_wp2_with (first | (go_at_call 106;(with_reducible refine (gz HM.out HPB.out HLN.out HRQ.out).mono ?_);rintro e w' ⟨rfl,hM'⟩;have nM:=Mw hM';clear HM hM';have HM:=nM;clear nM) | (go_at_call 107;(with_reducible refine (eH (k:=4) HM.out HMO.out ib HP4.out HLN.out (by decide) (by decide) HX.out HSB.out).mono ?_);rintro e w' ⟨rfl,hM'⟩;have nM:=Mw hM';clear HM hM';have HM:=nM;clear nM) | (go_at_call 108;refine (iJ _ _ (by decide)).mono ?_;rintro e w2 ⟨rfl,rfl⟩) | (go_at_call 111;(with_reducible refine (kU (m:=2) HM.out HV.out (gX HM.out.bel HB0.out) HVV.out (by decide) tO).mono ?_);rintro e w' ⟨rfl,hM'⟩;have nM:=Mw hM';clear HM hM';have HM:=nM;clear nM) | (go_at_call 107;(with_reducible refine (eH HM.out HCN.out rfl HPC.out HLN.out (bQ _ _).1 (Mx (bQ _ _).2 (by decide)) HX.out HSB.out).mono ?_);rintro e w' ⟨rfl,hM'⟩;have nM:=Mw hM';clear HM hM';have HM:=nM;clear nM) | (go_at_call 114;(with_reducible refine (FW fc HM.out HN.out hgB HSB.out HX.out HLN.out HC5.out HOL.out HPC.out).mono ?_);rintro e w' ⟨v',x0,rfl,hB'⟩;have nB2:=Mw hB';clear HM hB'))
   go_ret2
   exact fv.bad HRE.out (gX nB2.out HB0.out)
  rotate_left
  ·subst h3;have hr4:4<=r:=by have:=bQ 4 v;omega
   have HRQ:=Mw hr;have HMO:=Mw h1;have HP4:=Mw (show pos+4<=8*bs.length by omega);have HPC:=Mw h2;obtain⟨cn,hcn⟩:∃ cn,aq bs (pos+4) (aw 4 v)=cn:=⟨_,rfl⟩
   try rw [hcn] at h3
   try rw [hcn] at h4
   try rw [hcn] at hR' hF'
   have hc5:cn<=100000:=by rw [<- hcn];exact My (Mz (gy _ _ _) (Mx (MA (by decide) (bQ 4 v).2) (by decide)))
   have HCN:=Mw hcn;have HC5:=Mw hc5;clear hr h1 h2 hcn hc5;have HPE:=Mw h4;have HRE:=Mw hRe;clear h4 hRe
   go_wp2_with (first | (go_at_call 106;(with_reducible refine (gz HM.out HPB.out HLN.out HRQ.out).mono ?_);rintro e w' ⟨rfl,hM'⟩;have nM:=Mw hM';clear HM hM';have HM:=nM;clear nM) | (go_at_call 107;(with_reducible refine (eH (k:=4) HM.out HMO.out ib HP4.out HLN.out (by decide) (by decide) HX.out HSB.out).mono ?_);rintro e w' ⟨rfl,hM'⟩;have nM:=Mw hM';clear HM hM';have HM:=nM;clear nM) | (go_at_call 108;refine (iJ _ _ (by decide)).mono ?_;rintro e w2 ⟨rfl,rfl⟩) | (go_at_call 111;(with_reducible refine (kU (m:=4) HM.out HV.out (gX HM.out.bel HB0.out) HVV.out (by decide) tP).mono ?_);rintro e w' ⟨rfl,hM'⟩;have nM:=Mw hM';clear HM hM';have HM:=nM;clear nM) | (go_at_call 107;(with_reducible refine (eH HM.out HCN.out rfl HPC.out HLN.out (bQ _ _).1 (Mx (bQ _ _).2 (by decide)) HX.out HSB.out).mono ?_);rintro e w' ⟨rfl,hM'⟩;have nM:=Mw hM';clear HM hM';have HM:=nM;clear nM) | (go_at_call 115;(with_reducible refine (FY HM.out HLN.out HPC.out HPE.out HC5.out).mono ?_);rintro e w' ⟨v',vs',x0,rfl,hB'⟩;have nB2:=Mw hB';clear HM hB'))
   go_ret2
   exact fv.bad HRE.out (gX nB2.out HB0.out)
  subst h3;have hr4:4<=r:=by have:=bQ 4 v;omega
  have HRQ:=Mw hr;have HMO:=Mw h1;have HP4:=Mw (show pos+4<=8*bs.length by omega);have HPC:=Mw h2;obtain⟨cn,hcn⟩:∃ cn,aq bs (pos+4) (aw 4 v)=cn:=⟨_,rfl⟩
  try rw [hcn] at h3
  try rw [hcn] at h4
  try rw [hcn] at hR' hF'
  have hc5:cn<=100000:=by rw [<- hcn];exact My (Mz (gy _ _ _) (Mx (MA (by decide) (bQ 4 v).2) (by decide)))
  have HCN:=Mw hcn;have HC5:=Mw hc5;clear hr h1 h2 hcn hc5;have HPE:=Mw h4;have HR2:=Mw hR';have HF2:=Mw hF';clear h4 hR' hF'
  go_wp2_with (first | (go_at_call 106;(with_reducible refine (gz HM.out HPB.out HLN.out HRQ.out).mono ?_);rintro e w' ⟨rfl,hM'⟩;have nM:=Mw hM';clear HM hM';have HM:=nM;clear nM) | (go_at_call 107;(with_reducible refine (eH (k:=4) HM.out HMO.out ib HP4.out HLN.out (by decide) (by decide) HX.out HSB.out).mono ?_);rintro e w' ⟨rfl,hM'⟩;have nM:=Mw hM';clear HM hM';have HM:=nM;clear nM) | (go_at_call 108;refine (iJ _ _ (by decide)).mono ?_;rintro e w2 ⟨rfl,rfl⟩) | (go_at_call 111;(with_reducible refine (kU (m:=4) HM.out HV.out (gX HM.out.bel HB0.out) HVV.out (by decide) tP).mono ?_);rintro e w' ⟨rfl,hM'⟩;have nM:=Mw hM';clear HM hM';have HM:=nM;clear nM) | (go_at_call 107;(with_reducible refine (eH HM.out HCN.out rfl HPC.out HLN.out (bQ _ _).1 (Mx (bQ _ _).2 (by decide)) HX.out HSB.out).mono ?_);rintro e w' ⟨rfl,hM'⟩;have nM:=Mw hM';clear HM hM';have HM:=nM;clear nM) | (go_at_call 115;(with_reducible refine (FX HM.out hgB HSB.out HX.out HLN.out HC5.out HOL.out HSL.out HPE.out).mono ?_);rintro e w' ⟨v',vs',qs2,rfl,hM'⟩;have nM:=Mw hM';clear HM hM';have HM:=nM;clear nM))
  go_roundw
  case rel=>exact⟨_,_,_,_,_,_,qs2,rfl,rfl,rfl,rfl,rfl,rfl,HM,HR2,HF2⟩
  case measure=>rw [nF HM.out.src,HPOS.out];have:=HF2.out.pos;dsimp only at this;omega
end Go.Proofs.YtgccjgpdjkhpdaaGreat.B
