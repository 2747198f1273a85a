import Derived.Deep.RegionWith
import Derived.Test.YtgccjgpdjkhpdaaGreatVCrop13
import Derived.Test.YtgccjgpdjkhpdaaGreatVCrop16
/-! Own texts of this claim, part 14. -/
namespace Go.Proofs.YtgccjgpdjkhpdaaGreat.B
open Go.RowKit Go.Proofs.YtgccjgpdjkhpdaaGreatW.PrintWords Go.Proofs.YtgccjgpdjkhpdaaGreatW.PrintLast Go.Proofs.YtgccjgpdjkhpdaaGreatW.PrintMore
set_option linter.unusedVariables false
set_option linter.unusedSimpArgs false
def ParseDone (w:World)(g n c l:Nat)(R:Option PS)(e:Ending)(w':World):Prop :=
 match R with
 | some st=>∃ r vs vx qs,e=.returned (.tuple #[.pointer (some ⟨r,0,none⟩),.nilIface])/\w.heap.size<=r/\
   Blk w' r 194 #[.slice (some ⟨g,0,none⟩) n c,.int .i64 (8*(n:Int)),.string (strOfNums st.out),vs,.string (lvName l),.int .i64 0,.int .i64 0,.nilIface,.int .i64 st.par,.int .i64 st.sq,.int .i64 (if st.fc then 3 else 1)]/\
   SegsAt w' w.heap.size vs vx qs st.segs/\Below w.heap.size w w'
 | none=>∃ x,e=.returned (.tuple #[.pointer none,.iface 208 x])/\Below w.heap.size w w'
theorem ParseDone.bad {w w':World}{g n c l:Nat}{R:Option PS}{x:Value}(h:R=none)(hb:Below w.heap.size w w'):ParseDone w g n c l R (.returned (.tuple #[.pointer none,.iface 208 x])) w':=by
 subst h
 exact⟨x,rfl,hb⟩
theorem ParseDone.fine {w w' wr:World}{g n c l r s B0:Nat}{bs:List Nat}{pos:Nat}{R:Option PS}{v11 v12 vs:Value}{qs:List Nat}{out:List Int}{segs:List (List Int)}{fc:Bool}{sq par md:Int}{pos':Nat}(h:R=some ⟨pos',out,segs,fc,sq,par⟩)(hB:B0=w.heap.size)
  (hM:PMem w wr B0 s g bs pos v11 v12 out qs segs) (hvs:(vs=v12)\/(segs.length=0/\vs=.slice none 0 0)) (hb:Below wr.heap.size wr w') (hr:B0<=r) (hmd:md=if fc then 3 else 1)
  (hk:Blk w' r 194 #[.slice (some ⟨g,0,none⟩) n c,.int .i64 (8*(n:Int)),.string (strOfNums out),vs,.string (lvName l),.int .i64 0,.int .i64 0,.nilIface,.int .i64 par,.int .i64 sq,.int .i64 md]) :
  ParseDone w g n c l R (.returned (.tuple #[.pointer (some ⟨r,0,none⟩),.nilIface])) w':=by
 subst h hB hmd
 have hM':=hM.under hb
 refine⟨r,vs,v11,qs,rfl,hr,hk,?_,hM'.bel⟩
 rcases hvs with rfl | ⟨h0,rfl⟩
 ·exact hM'.segs
 ·obtain⟨h1,h2,h3⟩:=hM'.segs
  refine⟨h1,⟨by rw [segCells_len _ _ h1,Nat.mul_one],.inl ⟨rfl,h0⟩⟩,h3⟩
theorem four_:(4:Int)=((4:Nat):Int):=rfl
theorem cast1_:(1:Int)=((1:Nat):Int):=rfl
theorem cast2_:(2:Int)=((2:Nat):Int):=rfl
theorem cast4_:(4:Int)=((4:Nat):Int):=rfl
theorem eight_:(8:Int)=((8:Nat):Int):=rfl
theorem VB_ {w wr:World}{B0:Nat}(h:Below B0 w wr)(hB:B0=w.heap.size:=by assumption):Below w.heap.size w wr:=hB ▸ h
set_option maxHeartbeats 8000000 in
set_option maxRecDepth 100000 in
theorem parseWalk (w:World)(g n c pv l v:Nat)(bs:List Nat)(hint:Value)(R:Option PS)(hU:RBlk w g bs)(hcp:capAt w g=c)(hn:bs.length=n)(hV:VerAt w pv (v:Int) (verRow v))(hv:1<=v/\v<=40)(hl4:l<4)(hx:AllLt 8 bs)(hl:bs.length<=100000)
  (hR:Rd bs v ⟨0,[],[],false,-1,-1⟩ R) :
  Calls Tryz.prog 61 #[.slice (some ⟨g,0,none⟩) n c,.pointer (some ⟨pv,0,none⟩),.int .i64 (l:Int),hint] w (ParseDone w g n c l R):=by
 obtain⟨B0,hB0⟩:∃ B0,B0=w.heap.size:=⟨_,rfl⟩
 obtain⟨wa,hwa⟩:∃ wa,wa=w.alloc (.cells #[.slice (some ⟨g,0,none⟩) n c,.int .i64 0,.int .i64 0] 226):=⟨_,rfl⟩
 have kn:Calls Tryz.prog 105 #[.slice (some ⟨g,0,none⟩) n c] w fun e w'=>e=.returned (.pointer (some ⟨B0,0,none⟩))/\wa=w':=by
  refine (newSrc w g n c).mono ?_
  rintro e w' ⟨rfl,rfl⟩
  exact⟨by rw [hB0],hwa⟩
 have hzs:wa.heap.size=B0+1:=by rw [hwa,hB0];simp
 obtain⟨i5,hi5,hz5,hs5,hb5⟩:=info_parts F.info5
 obtain⟨wb,hmb,hob,hgb⟩:=run_makeSlice_owned (P:=Tryz.prog) (w:=wa) B0 26 5 i5 (.int .u8 0) 1 Tryz.underlying26 hi5 hz5 hs5 .i64 .i64 50 (by omega) (by rw [hb5];omega) (by simp [maxLen]) (by omega)
 obtain⟨i6,hi6,hz6,hs6,hb6⟩:=info_parts info26s
 have hbz:=hgb.size
 obtain⟨wc,hmc,hoc,hgc⟩:=run_makeSlice_owned (P:=Tryz.prog) (w:=wb) B0 27 26 i6 (.slice none 0 0) 1 Tryz.underlying27 hi6 hz6 hs6 .i64 .i64 1 (by omega) (by rw [hb6];omega) (by simp [maxLen]) (by omega)
 have hM0:PMem w wc B0 B0 g bs 0 (.slice (some ⟨wa.heap.size,0,none⟩) 0 50) (.slice (some ⟨wb.heap.size,0,none⟩) 0 1) [] [] []:=by
  have h1:Blk wa B0 226 #[.slice (some ⟨g,0,none⟩) bs.length (capAt wa g),.int .i64 ((0/8:Nat):Int),.int .i64 ((0%8:Nat):Int)]:=by rw [hwa,capAt_eq (Below.heap_alloc w _ g hU.lt),hcp,hB0,hn];exact Blk.new _ _ _
  have h2:RBlk wa g bs:=by rw [hwa];exact hU.move (Below.heap_alloc w _ g hU.lt)
  have mv:∀ k,k<wa.heap.size->wc.heap[k]? = wa.heap[k]?:=fun k hk=>(hgc.block k (by omega) (by simp)).trans (hgb.block k hk (by simp))
  refine⟨?_,⟨rfl,hoc,fun i hi=>absurd hi (Nat.not_lt_zero _)⟩,⟨by rw [capAt_eq (mv _ h2.lt)];exact (mv _ h1.lt).trans h1,h2.move (mv _ h2.lt)⟩,?_,?_⟩
  ·exact own_move hob fun k hk=>by
    obtain⟨cs,hc⟩:=own_blk hob k hk
    exact hgc.block k hc.lt (by simp)
  ·have hwb:Below B0 w wa:=by rw [hwa,hB0];exact below_alloc (Below.refl _ _) _
   exact⟨hgc.os.trans (hgb.os.trans hwb.os),hgc.tape.trans (hgb.tape.trans hwb.tape),hgc.output.trans (hgb.output.trans hwb.output),Nat.le_trans hwb.size (Nat.le_trans hgb.size hgc.size),fun k hk=>(mv k (by omega)).trans (hwb.block k hk)⟩
  ·have:=hgc.size;omega
 have hgB:g<B0:=by rw [hB0];exact hU.lt
 have HM:=Aside0.mk hM0
 have HR:=Aside0.mk hR
 have HF:=Aside0.mk (show (⟨0,[],[],false,-1,-1⟩:PS).Fits bs.length from ⟨Nat.zero_le _,Nat.le_refl _,Nat.le_refl _⟩)
 have HX:=Aside0.mk hx
 have HLN:=Aside0.mk hl
 have HV:=Aside0.mk hV
 have HVV:=Aside0.mk hv
 have HNN:=Aside0.mk hn
 have HB0:=Aside0.mk hB0
 have HSB:=Aside0.mk (Nat.le_refl B0)
 obtain⟨va,hva⟩:∃ va,va=(Value.slice (some ⟨wa.heap.size,0,none⟩) 0 50):=⟨_,rfl⟩
 obtain⟨vb,hvb⟩:∃ vb,vb=(Value.slice (some ⟨wb.heap.size,0,none⟩) 0 1):=⟨_,rfl⟩
 rw [<- hva,<- hvb] at HM
 rw [<- hva,show ((50:Nat):Int)=50 from rfl] at hmb
 rw [<- hvb,show ((1:Nat):Int)=1 from rfl] at hmc
 clear hU hcp hn hV hv hx hl hR hB0 hwa hzs hi5 hz5 hs5 hb5 hob hgb hi6 hz6 hs6 hb6 hbz hoc hgc hM0 hva hvb
 go_enter Tryz.func61,Tryz.ntmps61
 go_wp2_with (go_at_call 105;refine kn.mono ?_;rintro e w' ⟨rfl,rfl⟩)
 clear hmb hmc kn
 go_loopw [11,12,13,14,16,17,18,19] (fun v11 v12 v13 v14 v16 v17 v18 v19 wr=>∃ (pos:Nat) (out:List Int) (segs:List (List Int)) (fc:Bool) (sq par:Int) (qs:List Nat),v13=.int .i64 sq/\v14=.int .i64 par/\v16=.pointer none/\v17=.bool fc/\v18=.bool fc/\v19=.bool false/\Aside0 (PMem w wr B0 B0 g bs pos v11 v12 out qs segs)/\Aside0 (Rd bs v ⟨pos,out,segs,fc,sq,par⟩ R)/\Aside0 ((⟨pos,out,segs,fc,sq,par⟩:PS).Fits bs.length)) (fun _ _ _ _ _ _ _ _ wr=>8*bs.length-srcPos wr B0)
 case atStart=>exact⟨0,[],[],false,-1,-1,[],rfl,rfl,rfl,rfl,rfl,rfl,HM,HR,HF⟩
 case round=>
  clear HM HR HF
  obtain⟨pos,out,segs,fc,sq,par,qs,rfl,rfl,rfl,rfl,rfl,rfl,HM,HR,HF⟩:=hrel
  have HPOS:=Aside0.mk (srcPos_at HM.out.src)
  have HPB:=Aside0.mk (show pos<=8*bs.length from HF.out.pos)
  have HOL:=Aside0.mk (show out.length<=1000000 by have h1:=HF.out.out;have h2:=HF.out.pos;have:=HLN.out;dsimp only at h1 h2;omega)
  have HSL:=Aside0.mk (show segs.length<=1000000 by have h1:=HF.out.segs;have h2:=HF.out.pos;have:=HLN.out;dsimp only at h1 h2;omega)
  obtain⟨r,hr⟩:∃ r,8*bs.length-pos=r:=⟨_,rfl⟩
  have H:=Rd.inv HR.out HF.out
  dsimp only at H
  clear HR HF
  rcases H with⟨h1,hRe⟩ | ⟨h1,h2,hRe⟩ | ⟨h1,h2,st',rfl,hR',hF'⟩ | ⟨h1,h2,st',rfl,hR',hF'⟩ | ⟨m,h1,h2,hm,h3,hRe⟩ | ⟨h1,h2,ys,p,h3,st',rfl,hR',hF',hlt⟩ | ⟨h1,h2,h3,hRe⟩ | ⟨h1,h2,ys,p,h3,st',rfl,hR',hF',hlt⟩ | ⟨h1,h2,h3,hRe⟩ | ⟨h1,h2,n2,h3,h4,st',rfl,hR',hF'⟩ | ⟨h1,h2,n2,h3,h4,hRe⟩
  ·have hr4:r<4:=by omega
   have HRE:=Aside0.mk hRe
   have HRQ:=Aside0.mk hr
   clear hr h1 hRe
   obtain⟨Av,cv,hv12⟩:=own_slice HM.out.segs.own
   obtain⟨N,hN⟩:∃ N,segs.length=N:=⟨_,rfl⟩
   rw [hN] at hv12
   subst hv12
   have hNb:N<=1000000:=by have:=HSL.out;omega
   have HNE:=Aside0.mk hN
   have hnb:n<=1000000:=by have:=HNN.out;have:=HLN.out;omega
   clear hN
   cases fc
   all_goals
    by_cases hN0:N=0
    ·subst hN0
     go_wp2_with (first | (go_at_call 106;(with_reducible refine (leftP HM.out HPB.out HLN.out HRQ.out).mono ?_);rintro e w' ⟨rfl,hM'⟩;have nM:=Aside0.mk hM';clear HM hM';have HM:=nM;clear nM))
     have HCV:=Aside0.mk (fun (W:World) (hb:Below w'.heap.size w' W)=>own_string (P:=Tryz.prog) (e':=5) Tryz.underlying26 Tryz.underlying5 Tryz.underlying9 (own_under HM.out.own hb))
     have hb0:Below w'.heap.size w' w':=Below.refl _ _
     have hcv1:=HCV.out _ hb0
     have hcv2:=HCV.out _ (below_drew hb0)
     clear hb0
     go_region_with (first | (go_at_call 118;refine (levelName _ l hl4).mono ?_;rintro e w2 ⟨rfl,rfl⟩) | (go_at_call 117;refine (newRes _ g n c _ _ _ _ _ _ _ _ hnb).mono ?_;rintro e w2 ⟨rfl,rfl⟩))
     all_goals
      clear hcv1 hcv2
      go_wp2
      go_ret2
      exact ParseDone.fine HRE.out HB0.out HM.out (.inr ⟨HNE.out,rfl⟩) (below_alloc (below_drew (Below.refl _ _)) _) HM.out.sz rfl (Blk.new _ _ _)
    ·have hN1:((N:Int)==0)=false:=beq_eq_false_iff_ne.2 (by omega)
     go_wp2_with (first | (go_at_call 106;(with_reducible refine (leftP HM.out HPB.out HLN.out HRQ.out).mono ?_);rintro e w' ⟨rfl,hM'⟩;have nM:=Aside0.mk hM';clear HM hM';have HM:=nM;clear nM))
     have HCV:=Aside0.mk (fun (W:World) (hb:Below w'.heap.size w' W)=>own_string (P:=Tryz.prog) (e':=5) Tryz.underlying26 Tryz.underlying5 Tryz.underlying9 (own_under HM.out.own hb))
     have hb0:Below w'.heap.size w' w':=Below.refl _ _
     have hcv1:=HCV.out _ hb0
     have hcv2:=HCV.out _ (below_drew hb0)
     clear hb0
     go_region_with (first | (go_at_call 118;refine (levelName _ l hl4).mono ?_;rintro e w2 ⟨rfl,rfl⟩) | (go_at_call 117;refine (newRes _ g n c _ _ _ _ _ _ _ _ hnb).mono ?_;rintro e w2 ⟨rfl,rfl⟩))
     all_goals
      clear hcv1 hcv2
      go_wp2
      go_ret2
      exact ParseDone.fine HRE.out HB0.out HM.out (.inl rfl) (below_alloc (below_drew (Below.refl _ _)) _) HM.out.sz rfl (Blk.new _ _ _)
  ·have hr4:4<=r:=by omega
   have HRE:=Aside0.mk hRe
   have HRQ:=Aside0.mk hr
   have HMO:=Aside0.mk h2
   have HP4:=Aside0.mk h1
   clear hr h1 hRe h2
   obtain⟨Av,cv,hv12⟩:=own_slice HM.out.segs.own
   obtain⟨N,hN⟩:∃ N,segs.length=N:=⟨_,rfl⟩
   rw [hN] at hv12
   subst hv12
   have hNb:N<=1000000:=by have:=HSL.out;omega
   have HNE:=Aside0.mk hN
   have hnb:n<=1000000:=by have:=HNN.out;have:=HLN.out;omega
   clear hN
   cases fc
   all_goals
    by_cases hN0:N=0
    ·subst hN0
     go_wp2_with (first | (go_at_call 106;(with_reducible refine (leftP HM.out HPB.out HLN.out HRQ.out).mono ?_);rintro e w' ⟨rfl,hM'⟩;have nM:=Aside0.mk hM';clear HM hM';have HM:=nM;clear nM) | (go_at_call 107;(with_reducible refine (readP (k:=4) HM.out HMO.out four_ HP4.out HLN.out (by decide) (by decide) HX.out HSB.out).mono ?_);rintro e w' ⟨rfl,hM'⟩;have nM:=Aside0.mk hM';clear HM hM';have HM:=nM;clear nM) | (go_at_call 108;refine (modeL _ _ (by decide)).mono ?_;rintro e w2 ⟨rfl,rfl⟩))
     have HCV:=Aside0.mk (fun (W:World) (hb:Below w'.heap.size w' W)=>own_string (P:=Tryz.prog) (e':=5) Tryz.underlying26 Tryz.underlying5 Tryz.underlying9 (own_under HM.out.own hb))
     have hb0:Below w'.heap.size w' w':=Below.refl _ _
     have hcv1:=HCV.out _ hb0
     have hcv2:=HCV.out _ (below_drew hb0)
     clear hb0
     go_region_with (first | (go_at_call 118;refine (levelName _ l hl4).mono ?_;rintro e w2 ⟨rfl,rfl⟩) | (go_at_call 117;refine (newRes _ g n c _ _ _ _ _ _ _ _ hnb).mono ?_;rintro e w2 ⟨rfl,rfl⟩))
     all_goals
      clear hcv1 hcv2
      go_wp2
      go_ret2
      exact ParseDone.fine HRE.out HB0.out HM.out (.inr ⟨HNE.out,rfl⟩) (below_alloc (below_drew (Below.refl _ _)) _) HM.out.sz rfl (Blk.new _ _ _)
    ·have hN1:((N:Int)==0)=false:=beq_eq_false_iff_ne.2 (by omega)
     go_wp2_with (first | (go_at_call 106;(with_reducible refine (leftP HM.out HPB.out HLN.out HRQ.out).mono ?_);rintro e w' ⟨rfl,hM'⟩;have nM:=Aside0.mk hM';clear HM hM';have HM:=nM;clear nM) | (go_at_call 107;(with_reducible refine (readP (k:=4) HM.out HMO.out four_ HP4.out HLN.out (by decide) (by decide) HX.out HSB.out).mono ?_);rintro e w' ⟨rfl,hM'⟩;have nM:=Aside0.mk hM';clear HM hM';have HM:=nM;clear nM) | (go_at_call 108;refine (modeL _ _ (by decide)).mono ?_;rintro e w2 ⟨rfl,rfl⟩))
     have HCV:=Aside0.mk (fun (W:World) (hb:Below w'.heap.size w' W)=>own_string (P:=Tryz.prog) (e':=5) Tryz.underlying26 Tryz.underlying5 Tryz.underlying9 (own_under HM.out.own hb))
     have hb0:Below w'.heap.size w' w':=Below.refl _ _
     have hcv1:=HCV.out _ hb0
     have hcv2:=HCV.out _ (below_drew hb0)
     clear hb0
     go_region_with (first | (go_at_call 118;refine (levelName _ l hl4).mono ?_;rintro e w2 ⟨rfl,rfl⟩) | (go_at_call 117;refine (newRes _ g n c _ _ _ _ _ _ _ _ hnb).mono ?_;rintro e w2 ⟨rfl,rfl⟩))
     all_goals
      clear hcv1 hcv2
      go_wp2
      go_ret2
      exact ParseDone.fine HRE.out HB0.out HM.out (.inl rfl) (below_alloc (below_drew (Below.refl _ _)) _) HM.out.sz rfl (Blk.new _ _ _)
  ·have hr4:4<=r:=by omega
   have HRQ:=Aside0.mk hr
   have HMO:=Aside0.mk h2
   have HP4:=Aside0.mk h1
   have HR2:=Aside0.mk hR'
   have HF2:=Aside0.mk hF'
   clear hr h1 h2 hR' hF'
   go_wp2_with (first | (go_at_call 106;(with_reducible refine (leftP HM.out HPB.out HLN.out HRQ.out).mono ?_);rintro e w' ⟨rfl,hM'⟩;have nM:=Aside0.mk hM';clear HM hM';have HM:=nM;clear nM) | (go_at_call 107;(with_reducible refine (readP (k:=4) HM.out HMO.out four_ HP4.out HLN.out (by decide) (by decide) HX.out HSB.out).mono ?_);rintro e w' ⟨rfl,hM'⟩;have nM:=Aside0.mk hM';clear HM hM';have HM:=nM;clear nM) | (go_at_call 108;refine (modeL _ _ (by decide)).mono ?_;rintro e w2 ⟨rfl,rfl⟩))
   go_roundw
   case rel=>exact⟨_,_,_,_,_,_,qs,rfl,rfl,rfl,rfl,rfl,rfl,HM,HR2,HF2⟩
   case measure=>rw [srcPos_at HM.out.src,HPOS.out];have:=HP4.out;omega
  ·have hr4:4<=r:=by omega
   have HRQ:=Aside0.mk hr
   have HMO:=Aside0.mk h2
   have HP4:=Aside0.mk (show pos+4<=8*bs.length by omega)
   obtain⟨n1,hn1⟩:∃ n1,rdBits bs (pos+4) 8=n1:=⟨_,rfl⟩
   obtain⟨n2,hn2⟩:∃ n2,rdBits bs (pos+12) 8=n2:=⟨_,rfl⟩
   rw [hn1,hn2] at hR' hF'
   have HN1:=Aside0.mk hn1
   have HN2:=Aside0.mk (show rdBits bs (pos+4+8) 8=n2 by rw [Nat.add_assoc];exact hn2)
   have HPC1:=Aside0.mk (show pos+4+8<=8*bs.length by omega)
   have HPC2:=Aside0.mk (show pos+4+8+8<=8*bs.length by omega)
   have HR2:=Aside0.mk (show Rd bs v ⟨pos+4+8+8,out,segs,fc,n1,n2⟩ R by rw [show pos+4+8+8=pos+20 by omega];exact hR')
   have HF2:=Aside0.mk (show (⟨pos+4+8+8,out,segs,fc,n1,n2⟩:PS).Fits bs.length by rw [show pos+4+8+8=pos+20 by omega];exact hF')
   clear hr h1 h2 hR' hF' hn1 hn2
   go_wp2_with (first | (go_at_call 106;(with_reducible refine (leftP HM.out HPB.out HLN.out HRQ.out).mono ?_);rintro e w' ⟨rfl,hM'⟩;have nM:=Aside0.mk hM';clear HM hM';have HM:=nM;clear nM) | (go_at_call 107;(with_reducible refine (readP (k:=4) HM.out HMO.out four_ HP4.out HLN.out (by decide) (by decide) HX.out HSB.out).mono ?_);rintro e w' ⟨rfl,hM'⟩;have nM:=Aside0.mk hM';clear HM hM';have HM:=nM;clear nM) | (go_at_call 108;refine (modeL _ _ (by decide)).mono ?_;rintro e w2 ⟨rfl,rfl⟩) | (go_at_call 107;(with_reducible refine (readP (k:=8) HM.out HN1.out eight_ HPC1.out HLN.out (by decide) (by decide) HX.out HSB.out).mono ?_);rintro e w' ⟨rfl,hM'⟩;have nM:=Aside0.mk hM';clear HM hM';have HM:=nM;clear nM) | (go_at_call 107;(with_reducible refine (readP (k:=8) HM.out HN2.out eight_ HPC2.out HLN.out (by decide) (by decide) HX.out HSB.out).mono ?_);rintro e w' ⟨rfl,hM'⟩;have nM:=Aside0.mk hM';clear HM hM';have HM:=nM;clear nM))
   go_roundw
   case rel=>exact⟨_,_,_,_,_,_,qs,rfl,rfl,rfl,rfl,rfl,rfl,HM,HR2,HF2⟩
   case measure=>rw [srcPos_at HM.out.src,HPOS.out];have:=HPC2.out;omega
  ·have hr4:4<=r:=by omega
   have HRQ:=Aside0.mk hr
   have HMO:=Aside0.mk h2
   have HP4:=Aside0.mk h1
   have HPC4:=Aside0.mk h1
   have HPC:=Aside0.mk h3
   have HRE:=Aside0.mk hRe
   clear hr h1 h2 h3 hRe
   rcases hm with rfl | rfl | rfl
   ·go_wp2_with (first | (go_at_call 106;(with_reducible refine (leftP HM.out HPB.out HLN.out HRQ.out).mono ?_);rintro e w' ⟨rfl,hM'⟩;have nM:=Aside0.mk hM';clear HM hM';have HM:=nM;clear nM) | (go_at_call 107;(with_reducible refine (readP (k:=4) HM.out HMO.out four_ HP4.out HLN.out (by decide) (by decide) HX.out HSB.out).mono ?_);rintro e w' ⟨rfl,hM'⟩;have nM:=Aside0.mk hM';clear HM hM';have HM:=nM;clear nM) | (go_at_call 108;refine (modeL _ _ (by decide)).mono ?_;rintro e w2 ⟨rfl,rfl⟩) | (go_at_call 111;(with_reducible refine (cntP (m:=1) HM.out HV.out (VB_ HM.out.bel HB0.out) HVV.out (by decide) cast1_).mono ?_);rintro e w' ⟨rfl,hM'⟩;have nM:=Aside0.mk hM';clear HM hM';have HM:=nM;clear nM) | (go_at_call 107;(with_reducible refine (readP_bad HM.out HPC4.out HPC.out HLN.out (cntBits_le _ _).1 (Nat.le_trans (cntBits_le _ _).2 (by decide))).mono ?_);rintro e w' ⟨⟨x0,rfl⟩,hB',hZ'⟩;have nB:=Aside0.mk hB';have nZ:=Aside0.mk hZ';clear HM hB' hZ') | (go_at_call 87;refine (wrapP nB.out nZ.out).mono ?_;rintro e w' ⟨⟨y0,rfl⟩,hB'⟩;have nB2:=Aside0.mk hB';clear hB'))
    go_ret2
    exact ParseDone.bad HRE.out (VB_ nB2.out HB0.out)
   ·go_wp2_with (first | (go_at_call 106;(with_reducible refine (leftP HM.out HPB.out HLN.out HRQ.out).mono ?_);rintro e w' ⟨rfl,hM'⟩;have nM:=Aside0.mk hM';clear HM hM';have HM:=nM;clear nM) | (go_at_call 107;(with_reducible refine (readP (k:=4) HM.out HMO.out four_ HP4.out HLN.out (by decide) (by decide) HX.out HSB.out).mono ?_);rintro e w' ⟨rfl,hM'⟩;have nM:=Aside0.mk hM';clear HM hM';have HM:=nM;clear nM) | (go_at_call 108;refine (modeL _ _ (by decide)).mono ?_;rintro e w2 ⟨rfl,rfl⟩) | (go_at_call 111;(with_reducible refine (cntP (m:=2) HM.out HV.out (VB_ HM.out.bel HB0.out) HVV.out (by decide) cast2_).mono ?_);rintro e w' ⟨rfl,hM'⟩;have nM:=Aside0.mk hM';clear HM hM';have HM:=nM;clear nM) | (go_at_call 107;(with_reducible refine (readP_bad HM.out HPC4.out HPC.out HLN.out (cntBits_le _ _).1 (Nat.le_trans (cntBits_le _ _).2 (by decide))).mono ?_);rintro e w' ⟨⟨x0,rfl⟩,hB',hZ'⟩;have nB:=Aside0.mk hB';have nZ:=Aside0.mk hZ';clear HM hB' hZ') | (go_at_call 87;refine (wrapP nB.out nZ.out).mono ?_;rintro e w' ⟨⟨y0,rfl⟩,hB'⟩;have nB2:=Aside0.mk hB';clear hB'))
    go_ret2
    exact ParseDone.bad HRE.out (VB_ nB2.out HB0.out)
   ·go_wp2_with (first | (go_at_call 106;(with_reducible refine (leftP HM.out HPB.out HLN.out HRQ.out).mono ?_);rintro e w' ⟨rfl,hM'⟩;have nM:=Aside0.mk hM';clear HM hM';have HM:=nM;clear nM) | (go_at_call 107;(with_reducible refine (readP (k:=4) HM.out HMO.out four_ HP4.out HLN.out (by decide) (by decide) HX.out HSB.out).mono ?_);rintro e w' ⟨rfl,hM'⟩;have nM:=Aside0.mk hM';clear HM hM';have HM:=nM;clear nM) | (go_at_call 108;refine (modeL _ _ (by decide)).mono ?_;rintro e w2 ⟨rfl,rfl⟩) | (go_at_call 111;(with_reducible refine (cntP (m:=4) HM.out HV.out (VB_ HM.out.bel HB0.out) HVV.out (by decide) cast4_).mono ?_);rintro e w' ⟨rfl,hM'⟩;have nM:=Aside0.mk hM';clear HM hM';have HM:=nM;clear nM) | (go_at_call 107;(with_reducible refine (readP_bad HM.out HPC4.out HPC.out HLN.out (cntBits_le _ _).1 (Nat.le_trans (cntBits_le _ _).2 (by decide))).mono ?_);rintro e w' ⟨⟨x0,rfl⟩,hB',hZ'⟩;have nB:=Aside0.mk hB';have nZ:=Aside0.mk hZ';clear HM hB' hZ') | (go_at_call 87;refine (wrapP nB.out nZ.out).mono ?_;rintro e w' ⟨⟨y0,rfl⟩,hB'⟩;have nB2:=Aside0.mk hB';clear hB'))
    go_ret2
    exact ParseDone.bad HRE.out (VB_ nB2.out HB0.out)
  ·have hr4:4<=r:=by have:=cntBits_le 1 v;omega
   have HRQ:=Aside0.mk hr
   have HMO:=Aside0.mk h1
   have HP4:=Aside0.mk (show pos+4<=8*bs.length by omega)
   have HPC:=Aside0.mk h2
   obtain⟨cn,hcn⟩:∃ cn,rdBits bs (pos+4) (cntBits 1 v)=cn:=⟨_,rfl⟩
   try rw [hcn] at h3
   try rw [hcn] at h4
   try rw [hcn] at hR' hF'
   have hc5:cn<=100000:=by rw [<- hcn];exact Nat.le_of_lt (Nat.lt_of_lt_of_le (rdBits_lt _ _ _) (Nat.le_trans (Nat.pow_le_pow_right (by decide) (cntBits_le 1 v).2) (by decide)))
   have HCN:=Aside0.mk hcn
   have HC5:=Aside0.mk hc5
   clear hr h1 h2 hcn hc5
   have HN:=Aside0.mk h3
   have HR2:=Aside0.mk hR'
   have HF2:=Aside0.mk hF'
   have HLT:=Aside0.mk hlt
   clear h3 hR' hF' hlt
   go_wp2_with (first | (go_at_call 106;(with_reducible refine (leftP HM.out HPB.out HLN.out HRQ.out).mono ?_);rintro e w' ⟨rfl,hM'⟩;have nM:=Aside0.mk hM';clear HM hM';have HM:=nM;clear nM) | (go_at_call 107;(with_reducible refine (readP (k:=4) HM.out HMO.out four_ HP4.out HLN.out (by decide) (by decide) HX.out HSB.out).mono ?_);rintro e w' ⟨rfl,hM'⟩;have nM:=Aside0.mk hM';clear HM hM';have HM:=nM;clear nM) | (go_at_call 108;refine (modeL _ _ (by decide)).mono ?_;rintro e w2 ⟨rfl,rfl⟩) | (go_at_call 111;(with_reducible refine (cntP (m:=1) HM.out HV.out (VB_ HM.out.bel HB0.out) HVV.out (by decide) cast1_).mono ?_);rintro e w' ⟨rfl,hM'⟩;have nM:=Aside0.mk hM';clear HM hM';have HM:=nM;clear nM) | (go_at_call 107;(with_reducible refine (readP HM.out HCN.out rfl HPC.out HLN.out (cntBits_le _ _).1 (Nat.le_trans (cntBits_le _ _).2 (by decide)) HX.out HSB.out).mono ?_);rintro e w' ⟨rfl,hM'⟩;have nM:=Aside0.mk hM';clear HM hM';have HM:=nM;clear nM) | (go_at_call 113;(with_reducible refine (numP HM.out HN.out hgB HSB.out HX.out HLN.out HC5.out HOL.out HPC.out).mono ?_);rintro e w' ⟨v',rfl,hM'⟩;have nM:=Aside0.mk hM';clear HM hM';have HM:=nM;clear nM))
   go_roundw
   case rel=>exact⟨_,_,_,_,_,_,qs,rfl,rfl,rfl,rfl,rfl,rfl,HM,HR2,HF2⟩
   case measure=>rw [srcPos_at HM.out.src,HPOS.out];have:=HLT.out;have:=HF2.out.pos;dsimp only at this;omega
  ·have hr4:4<=r:=by have:=cntBits_le 1 v;omega
   have HRQ:=Aside0.mk hr
   have HMO:=Aside0.mk h1
   have HP4:=Aside0.mk (show pos+4<=8*bs.length by omega)
   have HPC:=Aside0.mk h2
   obtain⟨cn,hcn⟩:∃ cn,rdBits bs (pos+4) (cntBits 1 v)=cn:=⟨_,rfl⟩
   try rw [hcn] at h3
   try rw [hcn] at h4
   try rw [hcn] at hR' hF'
   have hc5:cn<=100000:=by rw [<- hcn];exact Nat.le_of_lt (Nat.lt_of_lt_of_le (rdBits_lt _ _ _) (Nat.le_trans (Nat.pow_le_pow_right (by decide) (cntBits_le 1 v).2) (by decide)))
   have HCN:=Aside0.mk hcn
   have HC5:=Aside0.mk hc5
   clear hr h1 h2 hcn hc5
   have HN:=Aside0.mk h3
   have HRE:=Aside0.mk hRe
   clear h3 hRe
   go_wp2_with (first | (go_at_call 106;(with_reducible refine (leftP HM.out HPB.out HLN.out HRQ.out).mono ?_);rintro e w' ⟨rfl,hM'⟩;have nM:=Aside0.mk hM';clear HM hM';have HM:=nM;clear nM) | (go_at_call 107;(with_reducible refine (readP (k:=4) HM.out HMO.out four_ HP4.out HLN.out (by decide) (by decide) HX.out HSB.out).mono ?_);rintro e w' ⟨rfl,hM'⟩;have nM:=Aside0.mk hM';clear HM hM';have HM:=nM;clear nM) | (go_at_call 108;refine (modeL _ _ (by decide)).mono ?_;rintro e w2 ⟨rfl,rfl⟩) | (go_at_call 111;(with_reducible refine (cntP (m:=1) HM.out HV.out (VB_ HM.out.bel HB0.out) HVV.out (by decide) cast1_).mono ?_);rintro e w' ⟨rfl,hM'⟩;have nM:=Aside0.mk hM';clear HM hM';have HM:=nM;clear nM) | (go_at_call 107;(with_reducible refine (readP HM.out HCN.out rfl HPC.out HLN.out (cntBits_le _ _).1 (Nat.le_trans (cntBits_le _ _).2 (by decide)) HX.out HSB.out).mono ?_);rintro e w' ⟨rfl,hM'⟩;have nM:=Aside0.mk hM';clear HM hM';have HM:=nM;clear nM) | (go_at_call 113;(with_reducible refine (numP_bad HM.out HN.out hgB HSB.out HX.out HLN.out HC5.out HOL.out HPC.out).mono ?_);rintro e w' ⟨v',x0,rfl,hB'⟩;have nB2:=Aside0.mk hB';clear HM hB'))
   go_ret2
   exact ParseDone.bad HRE.out (VB_ nB2.out HB0.out)
  ·have hr4:4<=r:=by have:=cntBits_le 2 v;omega
   have HRQ:=Aside0.mk hr
   have HMO:=Aside0.mk h1
   have HP4:=Aside0.mk (show pos+4<=8*bs.length by omega)
   have HPC:=Aside0.mk h2
   obtain⟨cn,hcn⟩:∃ cn,rdBits bs (pos+4) (cntBits 2 v)=cn:=⟨_,rfl⟩
   try rw [hcn] at h3
   try rw [hcn] at h4
   try rw [hcn] at hR' hF'
   have hc5:cn<=100000:=by rw [<- hcn];exact Nat.le_of_lt (Nat.lt_of_lt_of_le (rdBits_lt _ _ _) (Nat.le_trans (Nat.pow_le_pow_right (by decide) (cntBits_le 2 v).2) (by decide)))
   have HCN:=Aside0.mk hcn
   have HC5:=Aside0.mk hc5
   clear hr h1 h2 hcn hc5
   have HN:=Aside0.mk h3
   have HR2:=Aside0.mk hR'
   have HF2:=Aside0.mk hF'
   have HLT:=Aside0.mk hlt
   clear h3 hR' hF' hlt
   go_wp2_with (first | (go_at_call 106;(with_reducible refine (leftP HM.out HPB.out HLN.out HRQ.out).mono ?_);rintro e w' ⟨rfl,hM'⟩;have nM:=Aside0.mk hM';clear HM hM';have HM:=nM;clear nM) | (go_at_call 107;(with_reducible refine (readP (k:=4) HM.out HMO.out four_ HP4.out HLN.out (by decide) (by decide) HX.out HSB.out).mono ?_);rintro e w' ⟨rfl,hM'⟩;have nM:=Aside0.mk hM';clear HM hM';have HM:=nM;clear nM) | (go_at_call 108;refine (modeL _ _ (by decide)).mono ?_;rintro e w2 ⟨rfl,rfl⟩) | (go_at_call 111;(with_reducible refine (cntP (m:=2) HM.out HV.out (VB_ HM.out.bel HB0.out) HVV.out (by decide) cast2_).mono ?_);rintro e w' ⟨rfl,hM'⟩;have nM:=Aside0.mk hM';clear HM hM';have HM:=nM;clear nM) | (go_at_call 107;(with_reducible refine (readP HM.out HCN.out rfl HPC.out HLN.out (cntBits_le _ _).1 (Nat.le_trans (cntBits_le _ _).2 (by decide)) HX.out HSB.out).mono ?_);rintro e w' ⟨rfl,hM'⟩;have nM:=Aside0.mk hM';clear HM hM';have HM:=nM;clear nM) | (go_at_call 114;(with_reducible refine (alP fc HM.out HN.out rfl hgB HSB.out HX.out HLN.out HC5.out HOL.out HPC.out).mono ?_);rintro e w' ⟨v',rfl,hM'⟩;have nM:=Aside0.mk hM';clear HM hM';have HM:=nM;clear nM))
   go_roundw
   case rel=>exact⟨_,_,_,_,_,_,qs,rfl,rfl,rfl,rfl,rfl,rfl,HM,HR2,HF2⟩
   case measure=>rw [srcPos_at HM.out.src,HPOS.out];have:=HLT.out;have:=HF2.out.pos;dsimp only at this;omega
  ·have hr4:4<=r:=by have:=cntBits_le 2 v;omega
   have HRQ:=Aside0.mk hr
   have HMO:=Aside0.mk h1
   have HP4:=Aside0.mk (show pos+4<=8*bs.length by omega)
   have HPC:=Aside0.mk h2
   obtain⟨cn,hcn⟩:∃ cn,rdBits bs (pos+4) (cntBits 2 v)=cn:=⟨_,rfl⟩
   try rw [hcn] at h3
   try rw [hcn] at h4
   try rw [hcn] at hR' hF'
   have hc5:cn<=100000:=by rw [<- hcn];exact Nat.le_of_lt (Nat.lt_of_lt_of_le (rdBits_lt _ _ _) (Nat.le_trans (Nat.pow_le_pow_right (by decide) (cntBits_le 2 v).2) (by decide)))
   have HCN:=Aside0.mk hcn
   have HC5:=Aside0.mk hc5
   clear hr h1 h2 hcn hc5
   have HN:=Aside0.mk h3
   have HRE:=Aside0.mk hRe
   clear h3 hRe
   go_wp2_with (first | (go_at_call 106;(with_reducible refine (leftP HM.out HPB.out HLN.out HRQ.out).mono ?_);rintro e w' ⟨rfl,hM'⟩;have nM:=Aside0.mk hM';clear HM hM';have HM:=nM;clear nM) | (go_at_call 107;(with_reducible refine (readP (k:=4) HM.out HMO.out four_ HP4.out HLN.out (by decide) (by decide) HX.out HSB.out).mono ?_);rintro e w' ⟨rfl,hM'⟩;have nM:=Aside0.mk hM';clear HM hM';have HM:=nM;clear nM) | (go_at_call 108;refine (modeL _ _ (by decide)).mono ?_;rintro e w2 ⟨rfl,rfl⟩) | (go_at_call 111;(with_reducible refine (cntP (m:=2) HM.out HV.out (VB_ HM.out.bel HB0.out) HVV.out (by decide) cast2_).mono ?_);rintro e w' ⟨rfl,hM'⟩;have nM:=Aside0.mk hM';clear HM hM';have HM:=nM;clear nM) | (go_at_call 107;(with_reducible refine (readP HM.out HCN.out rfl HPC.out HLN.out (cntBits_le _ _).1 (Nat.le_trans (cntBits_le _ _).2 (by decide)) HX.out HSB.out).mono ?_);rintro e w' ⟨rfl,hM'⟩;have nM:=Aside0.mk hM';clear HM hM';have HM:=nM;clear nM) | (go_at_call 114;(with_reducible refine (alP_bad fc HM.out HN.out hgB HSB.out HX.out HLN.out HC5.out HOL.out HPC.out).mono ?_);rintro e w' ⟨v',x0,rfl,hB'⟩;have nB2:=Aside0.mk hB';clear HM hB'))
   go_ret2
   exact ParseDone.bad HRE.out (VB_ nB2.out HB0.out)
  ·subst h3
   have hr4:4<=r:=by have:=cntBits_le 4 v;omega
   have HRQ:=Aside0.mk hr
   have HMO:=Aside0.mk h1
   have HP4:=Aside0.mk (show pos+4<=8*bs.length by omega)
   have HPC:=Aside0.mk h2
   obtain⟨cn,hcn⟩:∃ cn,rdBits bs (pos+4) (cntBits 4 v)=cn:=⟨_,rfl⟩
   try rw [hcn] at h3
   try rw [hcn] at h4
   try rw [hcn] at hR' hF'
   have hc5:cn<=100000:=by rw [<- hcn];exact Nat.le_of_lt (Nat.lt_of_lt_of_le (rdBits_lt _ _ _) (Nat.le_trans (Nat.pow_le_pow_right (by decide) (cntBits_le 4 v).2) (by decide)))
   have HCN:=Aside0.mk hcn
   have HC5:=Aside0.mk hc5
   clear hr h1 h2 hcn hc5
   have HPE:=Aside0.mk h4
   have HR2:=Aside0.mk hR'
   have HF2:=Aside0.mk hF'
   clear h4 hR' hF'
   go_wp2_with (first | (go_at_call 106;(with_reducible refine (leftP HM.out HPB.out HLN.out HRQ.out).mono ?_);rintro e w' ⟨rfl,hM'⟩;have nM:=Aside0.mk hM';clear HM hM';have HM:=nM;clear nM) | (go_at_call 107;(with_reducible refine (readP (k:=4) HM.out HMO.out four_ HP4.out HLN.out (by decide) (by decide) HX.out HSB.out).mono ?_);rintro e w' ⟨rfl,hM'⟩;have nM:=Aside0.mk hM';clear HM hM';have HM:=nM;clear nM) | (go_at_call 108;refine (modeL _ _ (by decide)).mono ?_;rintro e w2 ⟨rfl,rfl⟩) | (go_at_call 111;(with_reducible refine (cntP (m:=4) HM.out HV.out (VB_ HM.out.bel HB0.out) HVV.out (by decide) cast4_).mono ?_);rintro e w' ⟨rfl,hM'⟩;have nM:=Aside0.mk hM';clear HM hM';have HM:=nM;clear nM) | (go_at_call 107;(with_reducible refine (readP HM.out HCN.out rfl HPC.out HLN.out (cntBits_le _ _).1 (Nat.le_trans (cntBits_le _ _).2 (by decide)) HX.out HSB.out).mono ?_);rintro e w' ⟨rfl,hM'⟩;have nM:=Aside0.mk hM';clear HM hM';have HM:=nM;clear nM) | (go_at_call 115;(with_reducible refine (byteP HM.out hgB HSB.out HX.out HLN.out HC5.out HOL.out HSL.out HPE.out).mono ?_);rintro e w' ⟨v',vs',qs2,rfl,hM'⟩;have nM:=Aside0.mk hM';clear HM hM';have HM:=nM;clear nM))
   go_roundw
   case rel=>exact⟨_,_,_,_,_,_,qs2,rfl,rfl,rfl,rfl,rfl,rfl,HM,HR2,HF2⟩
   case measure=>rw [srcPos_at HM.out.src,HPOS.out];have:=HF2.out.pos;dsimp only at this;omega
  ·subst h3
   have hr4:4<=r:=by have:=cntBits_le 4 v;omega
   have HRQ:=Aside0.mk hr
   have HMO:=Aside0.mk h1
   have HP4:=Aside0.mk (show pos+4<=8*bs.length by omega)
   have HPC:=Aside0.mk h2
   obtain⟨cn,hcn⟩:∃ cn,rdBits bs (pos+4) (cntBits 4 v)=cn:=⟨_,rfl⟩
   try rw [hcn] at h3
   try rw [hcn] at h4
   try rw [hcn] at hR' hF'
   have hc5:cn<=100000:=by rw [<- hcn];exact Nat.le_of_lt (Nat.lt_of_lt_of_le (rdBits_lt _ _ _) (Nat.le_trans (Nat.pow_le_pow_right (by decide) (cntBits_le 4 v).2) (by decide)))
   have HCN:=Aside0.mk hcn
   have HC5:=Aside0.mk hc5
   clear hr h1 h2 hcn hc5
   have HPE:=Aside0.mk h4
   have HRE:=Aside0.mk hRe
   clear h4 hRe
   go_wp2_with (first | (go_at_call 106;(with_reducible refine (leftP HM.out HPB.out HLN.out HRQ.out).mono ?_);rintro e w' ⟨rfl,hM'⟩;have nM:=Aside0.mk hM';clear HM hM';have HM:=nM;clear nM) | (go_at_call 107;(with_reducible refine (readP (k:=4) HM.out HMO.out four_ HP4.out HLN.out (by decide) (by decide) HX.out HSB.out).mono ?_);rintro e w' ⟨rfl,hM'⟩;have nM:=Aside0.mk hM';clear HM hM';have HM:=nM;clear nM) | (go_at_call 108;refine (modeL _ _ (by decide)).mono ?_;rintro e w2 ⟨rfl,rfl⟩) | (go_at_call 111;(with_reducible refine (cntP (m:=4) HM.out HV.out (VB_ HM.out.bel HB0.out) HVV.out (by decide) cast4_).mono ?_);rintro e w' ⟨rfl,hM'⟩;have nM:=Aside0.mk hM';clear HM hM';have HM:=nM;clear nM) | (go_at_call 107;(with_reducible refine (readP HM.out HCN.out rfl HPC.out HLN.out (cntBits_le _ _).1 (Nat.le_trans (cntBits_le _ _).2 (by decide)) HX.out HSB.out).mono ?_);rintro e w' ⟨rfl,hM'⟩;have nM:=Aside0.mk hM';clear HM hM';have HM:=nM;clear nM) | (go_at_call 115;(with_reducible refine (byteP_bad HM.out HLN.out HPC.out HPE.out HC5.out).mono ?_);rintro e w' ⟨v',vs',x0,rfl,hB'⟩;have nB2:=Aside0.mk hB';clear HM hB'))
   go_ret2
   exact ParseDone.bad HRE.out (VB_ nB2.out HB0.out)
def segKd:Kd (List Int):=Kd.slice 5 (Kd.int .u8)
theorem SegsAt.reads {w:World}{base:Nat}{vs v:Value}{qs:List Nat}{segs:List (List Int)}(h:SegsAt w base vs v qs segs)(hl:∀ t∈segs,t.length<=1000000)(hn:segs.length<=1000000):∃ A c,vs=.slice A segs.length c/\segs.length<=c/\Kd.C segKd w A segs.length segs:=by
 rcases Nat.eq_zero_or_pos segs.length with h0 | h0
 ·have hz:segs=[]:=List.eq_nil_of_length_eq_zero h0
  subst hz
  rcases h.own.2 with⟨rfl,_⟩ | ⟨g,cap,cur,rfl,_⟩
  ·exact⟨none,0,rfl,Nat.le_refl _,rfl,by simp,fun hp=>absurd hp (Nat.lt_irrefl 0)⟩
  ·exact⟨_,cap,rfl,Nat.zero_le _,rfl,by simp,fun hp=>absurd hp (Nat.lt_irrefl 0)⟩
 ·obtain⟨g,cap,rfl,hg,hcap⟩:=h.own.form h0
  refine⟨_,cap,rfl,?_,rfl,by omega,fun _=>⟨_,rfl,fun j p hj=>?_⟩⟩
  ·rcases h.own.2 with⟨h',_⟩ | ⟨g',cap',cur,h',_,_,h3,_⟩
   ·cases h'
   ·simp only [Value.slice.injEq,Option.some.injEq,Addr.mk.injEq,and_true,true_and] at h'
    omega
  ·obtain⟨hjl,hp⟩:=List.getElem?_eq_some_iff.1 hj
   obtain⟨h1,h2,h3⟩:=h.blk j hjl
   have hpd:segs.getD j []=p:=by rw [List.getD_eq_getElem?_getD,hj];rfl
   rw [hpd] at h2
   have hpl:=hl p (by rw [<- hp];exact List.getElem_mem hjl)
   have hq:j<qs.length:=by rw [h.len];exact hjl
   refine⟨[.slice (some ⟨qs.getD j 0,0,none⟩) p.length p.length],rfl,⟨_,_,rfl,Nat.le_refl _,C_nums h2 (by omega)⟩,fun i u hu=>?_⟩
   have hi:i=0:=by
    have:=(List.getElem?_eq_some_iff.1 hu).1
    simpa using this
   subst hi
   have hc:=h.own.cells (g:=g) rfl j u (by
    rw [<- hu]
    unfold segCells
    rw [List.getElem?_zipWith,List.getElem?_eq_getElem hq,hj]
    simp [List.getD_eq_getElem?_getD,List.getElem?_eq_getElem hq])
   show w.cell? ((⟨g,0,none⟩:Addr).add (j*1+0))=some u
   rw [Nat.mul_one,Nat.add_zero]
   exact hc
theorem Rd.segLens {bs:List Nat}{v:Nat}{st:PS}{R:Option PS}(h:Rd bs v st R):(∀ t∈st.segs,t.length<=8*bs.length)->∀ s2,R=some s2->∀ t∈s2.segs,t.length<=8*bs.length:=by
 induction h with
 | done st h1 h2=>intro h s2 e;cases e;exact h
 | stop st h1 h2=>intro h s2 e;cases e;exact h
 | fnc st R h1 h2 h3 ih=>exact ih
 | part st R h1 h2 h3 ih=>exact ih
 | short=>intro h s2 e;cases e
 | num st ys p R h1 h2 h3 h4 ih=>exact ih
 | numBad=>intro h s2 e;cases e
 | al st ys p R h1 h2 h3 h4 ih=>exact ih
 | alBad=>intro h s2 e;cases e
 | byte st n R h1 h2 h3 h4 h5 ih=>
  intro h
  refine ih ?_
  intro t ht
  rcases List.mem_append.1 ht with ht | ht
  ·exact h t ht
  ·rw [List.mem_singleton.1 ht]
   simp only [byteSeg,List.length_map,List.length_range]
   omega
 | byteBad=>intro h s2 e;cases e
theorem Rd.fits {bs:List Nat}{v:Nat}{st:PS}{R:Option PS}(h:Rd bs v st R):st.Fits bs.length->∀ s2,R=some s2->s2.segs.length<=8*bs.length/\s2.out.length<=8*bs.length:=by
 induction h with
 | done st h1 h2=>intro F s2 e;cases e;obtain⟨f1,f2,f3⟩:=F;omega
 | stop st h1 h2=>intro F s2 e;cases e;obtain⟨f1,f2,f3⟩:=F;exact⟨by show st.segs.length<=_;omega,by show st.out.length<=_;omega⟩
 | fnc st R h1 h2 h3 ih=>intro F;exact ih ⟨h1,by have:=F.out;show st.out.length<=st.pos+4;omega,by have:=F.segs;show st.segs.length<=st.pos+4;omega⟩
 | part st R h1 h2 h3 ih=>intro F;exact ih ⟨h1,by have:=F.out;show st.out.length<=st.pos+20;omega,by have:=F.segs;show st.segs.length<=st.pos+20;omega⟩
 | short=>intro h s2 e;cases e
 | num st ys p R h1 h2 h3 h4 ih=>
  intro F
  have hb:=numSeg_bd bs _ _ _ _ _ h3 h2
  exact ih ⟨hb.2.1,by have:=F.out;show ys.length<=p;omega,by have:=F.segs;show st.segs.length<=p;omega⟩
 | numBad=>intro h s2 e;cases e
 | al st ys p R h1 h2 h3 h4 ih=>
  intro F
  have hb:=alSeg_bd bs _ _ _ _ _ h3 h2
  have hl:=alOut_len st.fc st.out ys hb.2.2.1
  exact ih ⟨hb.2.1,by have:=F.out;show (alOut st.fc st.out ys).length<=p;omega,by have:=F.segs;show st.segs.length<=p;omega⟩
 | alBad=>intro h s2 e;cases e
 | byte st n R h1 h2 h3 h4 h5 ih=>
  intro F
  refine ih ⟨h4,?_,?_⟩
  ·show (st.out++byteSeg _ _ _).length<=st.pos+4+cntBits 4 v+8*n;have:=F.out;rw [List.length_append];simp only [byteSeg,List.length_map,List.length_range];omega
  ·show (st.segs++[_]).length<=st.pos+4+cntBits 4 v+8*n;have:=F.segs;rw [List.length_append,List.length_singleton];omega
 | byteBad=>intro h s2 e;cases e
def ResIs (w:World)(r g l:Nat)(bs:List Nat)(st:PS):Prop:=RBlk w g bs/\∃ A c cg,Blk w r 194 #[.slice (some ⟨g,0,none⟩) bs.length cg,.int .i64 (8*(bs.length:Int)),.string (strOfNums st.out),.slice A st.segs.length c,.string (lvName l),.int .i64 0,.int .i64 0,.nilIface,.int .i64 st.par,.int .i64 st.sq,.int .i64 (if st.fc then 3 else 1)]/\
 st.segs.length<=c/\Kd.C segKd w A st.segs.length st.segs/\st.segs.length<=1000000/\∀ t∈st.segs,t.length<=1000000
theorem ResIs.below {w w':World}{r g l:Nat}{bs:List Nat}{st:PS}(h:ResIs w r g l bs st)(hb:Below w.heap.size w w'):ResIs w' r g l bs st:=by
 obtain⟨h1,A,c,cg,h2,h3,h4,h5,h6⟩:=h
 exact⟨h1.below hb h1.lt,A,c,cg,h2.below hb h2.lt,h3,Kd.C_below h4 hb,h5,h6⟩
theorem ParseDone.res {w w':World}{g l n cg v:Nat}{bs:List Nat}{st:PS}{e:Ending}(h:ParseDone w g n cg l (some st) e w')(hU:RBlk w g bs)(hn:bs.length=n)(hl:bs.length<=100000)(hR:Rd bs v ⟨0,[],[],false,-1,-1⟩ (some st)) :
  ∃ r,e=.returned (.tuple #[.pointer (some ⟨r,0,none⟩),.nilIface])/\w.heap.size<=r/\ResIs w' r g l bs st/\Below w.heap.size w w':=by
 obtain⟨r,vs,vx,qs,rfl,h1,h2,h3,h4⟩:=h
 have k1:=hR.segLens (fun t ht=>by cases ht) st rfl
 have k2:=(hR.fits ⟨Nat.zero_le _,Nat.le_refl _,Nat.le_refl _⟩ st rfl).1
 have k3:∀ t∈st.segs,t.length<=1000000:=fun t ht=>Nat.le_trans (k1 t ht) (by omega)
 obtain⟨A,c,rfl,h5,h6⟩:=h3.reads k3 (by omega)
 subst hn
 exact⟨r,rfl,h1,⟨hU.below h4 hU.lt,A,c,cg,h2,h5,h6,by omega,k3⟩,h4⟩
theorem res70 (w:World)(r:Nat)(A:Option Addr)(n c:Nat)(h:w.cell? ⟨r,3,none⟩=some (.slice A n c)):Calls Tryz.prog 70 #[.pointer (some ⟨r,0,none⟩)] w fun e w'=>e=.returned (.slice A n c)/\w=w':=by
 go_enter Tryz.func70,Tryz.ntmps70
 go_wp2
 go_ret
 exact⟨rfl,rfl⟩
theorem res71 (w:World)(r:Nat)(t:ByteArray)(h:w.cell? ⟨r,2,none⟩=some (.string t)):Calls Tryz.prog 71 #[.pointer (some ⟨r,0,none⟩)] w fun e w'=>e=.returned (.string t)/\w=w':=by
 go_enter Tryz.func71,Tryz.ntmps71
 go_wp2
 go_ret
 exact⟨rfl,rfl⟩
theorem res72 (w:World)(r:Nat)(A:Option Addr)(n c:Nat)(h:w.cell? ⟨r,0,none⟩=some (.slice A n c)):Calls Tryz.prog 72 #[.pointer (some ⟨r,0,none⟩)] w fun e w'=>e=.returned (.slice A n c)/\w=w':=by
 go_enter Tryz.func72,Tryz.ntmps72
 go_wp2
 go_ret
 exact⟨rfl,rfl⟩
theorem res73 (w:World)(r:Nat)(t:ByteArray)(h:w.cell? ⟨r,4,none⟩=some (.string t)):Calls Tryz.prog 73 #[.pointer (some ⟨r,0,none⟩)] w fun e w'=>e=.returned (.string t)/\w=w':=by
 go_enter Tryz.func73,Tryz.ntmps73
 go_wp2
 go_ret
 exact⟨rfl,rfl⟩
theorem res74 (w:World)(r:Nat)(x:Int)(h:w.cell? ⟨r,5,none⟩=some (.int .i64 x)):Calls Tryz.prog 74 #[.pointer (some ⟨r,0,none⟩)] w fun e w'=>e=.returned (.int .i64 x)/\w=w':=by
 go_enter Tryz.func74,Tryz.ntmps74
 go_wp2
 go_ret
 exact⟨rfl,rfl⟩
theorem res75 (w:World)(r:Nat)(x:Int)(h:w.cell? ⟨r,9,none⟩=some (.int .i64 x)):Calls Tryz.prog 75 #[.pointer (some ⟨r,0,none⟩)] w fun e w'=>e=.returned (.int .i64 x)/\w=w':=by
 go_enter Tryz.func75,Tryz.ntmps75
 go_wp2
 go_ret
 exact⟨rfl,rfl⟩
theorem res76 (w:World)(r:Nat)(x:Int)(h:w.cell? ⟨r,8,none⟩=some (.int .i64 x)):Calls Tryz.prog 76 #[.pointer (some ⟨r,0,none⟩)] w fun e w'=>e=.returned (.int .i64 x)/\w=w':=by
 go_enter Tryz.func76,Tryz.ntmps76
 go_wp2
 go_ret
 exact⟨rfl,rfl⟩
theorem res77 (w:World)(r:Nat)(x:Int)(h:w.cell? ⟨r,10,none⟩=some (.int .i64 x)):Calls Tryz.prog 77 #[.pointer (some ⟨r,0,none⟩)] w fun e w'=>e=.returned (.int .i64 x)/\w=w':=by
 go_enter Tryz.func77,Tryz.ntmps77
 go_wp2
 go_ret
 exact⟨rfl,rfl⟩
def DecIs (w:World)(base l:Nat)(bs:List Nat)(st:PS)(v:Value):Prop:=∃ Ar cr As cs,v=.agg #[.string (strOfNums st.out),.slice Ar bs.length cr,.slice As st.segs.length cs,.string (lvName l),.int .i64 0,.int .i64 st.sq,.int .i64 st.par,.int .i64 (if st.fc then 3 else 1)]/\
 Kd.R (Kd.int .u8) 5 w base (fun k=>base<=k) (.slice Ar bs.length cr) (ints bs)/\Kd.R segKd 26 w base (fun k=>base<=k) (.slice As st.segs.length cs) st.segs
theorem DecIs.move {w w':World}{base l:Nat}{bs:List Nat}{st:PS}{v:Value}(h:DecIs w base l bs st v)(hm:∀ k,base<=k->k<w.heap.size->w'.heap[k]? = w.heap[k]?):DecIs w' base l bs st v:=by
 obtain⟨Ar,cr,As,cs,rfl,h1,h2⟩:=h
 exact⟨Ar,cr,As,cs,rfl,Kd.R_step h1 hm,Kd.R_step h2 hm⟩
theorem DecIs.below {w w':World}{base l:Nat}{bs:List Nat}{st:PS}{v:Value}(h:DecIs w base l bs st v)(hb:Below w.heap.size w w'):DecIs w' base l bs st v:=h.move fun k _ hk=>hb.block k hk
theorem DecIs.lower {w:World}{base base' l:Nat}{bs:List Nat}{st:PS}{v:Value}(h:DecIs w base l bs st v)(hb:base'<=base):DecIs w base' l bs st v:=by
 obtain⟨Ar,cr,As,cs,rfl,h1,h2⟩:=h
 exact⟨Ar,cr,As,cs,rfl,Kd.R_mono (Kd.R_lower h1 hb) (fun k hk=>Nat.le_trans hb hk),Kd.R_mono (Kd.R_lower h2 hb) (fun k hk=>Nat.le_trans hb hk)⟩
theorem seg_made {w:World}{base n c:Nat}{A:Option Addr}{ys:List Int}(ho:w.ownsRow base 5 1 (.slice A n c) n (nums .u8 ys))(hn:ys.length=n):segKd.M w base (fun k=>(Value.slice A n c).ownBlock=some k) ys [.slice A n c]:=by
 subst hn
 exact⟨_,rfl,Kd.R_of_own ho (fun k hk=>hk)⟩
theorem seg_ok {w:World}{base n c:Nat}{A:Option Addr}{ys:List Int}{v6:Value}{zs:List (List Int)}(ho:w.ownsRow base 5 1 (.slice A n c) n (nums .u8 ys))(hv:Kd.R segKd 26 w base (fun k=>base<=k) v6 zs) :
  ∀ k,(Value.slice A n c).ownBlock=some k->base<=k/\some k≠v6.ownBlock:=by
 intro k hk
 obtain⟨inner,h⟩:=Kd.R_own hv
 exact⟨own_base ho k hk,own_apart ho h (by decide) k hk⟩
set_option maxHeartbeats 4000000 in
set_option maxRecDepth 100000 in
theorem decodedOK (w:World)(r gt l:Nat)(bs:List Nat)(st:PS)(h:ResIs w r gt l bs st)(hl:bs.length<=100000) :
  Calls Tryz.prog 35 #[.pointer (some ⟨r,0,none⟩),.nilIface] w fun e w'=>∃ v,e=.returned (.tuple #[v,.bool true])/\DecIs w' w.heap.size l bs st v/\Below w.heap.size w w':=by
 obtain⟨w0,hw0⟩:∃ w0,w0=w.alloc (.cells #[.string ⟨#[]⟩,.slice none 0 0,.slice none 0 0,.string ⟨#[]⟩,.int .i64 0,.int .i64 0,.int .i64 0,.int .i64 0] 29):=⟨_,rfl⟩
 have HB0:=Aside0.mk (show Below w.heap.size w w0 by rw [hw0];exact below_alloc (Below.refl _ _) _)
 have HD0:=Aside0.mk (show Blk w0 w.heap.size 29 #[.string ⟨#[]⟩,.slice none 0 0,.slice none 0 0,.string ⟨#[]⟩,.int .i64 0,.int .i64 0,.int .i64 0,.int .i64 0] by rw [hw0];exact Blk.new _ _ _)
 have HZ0:=Aside0.mk (show w0.heap.size=w.heap.size+1 by rw [hw0];simp)
 have HW:=Aside0.mk hw0
 have hres:=h.below (HB0.out)
 obtain⟨hU,A,c,cg,hblk,hc,hC,hsn,hst⟩:=hres
 obtain⟨segs,hsegs⟩:∃ segs,st.segs=segs:=⟨_,rfl⟩
 obtain⟨t,ht⟩:∃ t,strOfNums st.out=t:=⟨_,rfl⟩
 obtain⟨md,hmd⟩:∃ md:Int,(if st.fc then 3 else 1)=md:=⟨_,rfl⟩
 unfold DecIs
 rw [hsegs,ht,hmd] at hblk ⊢
 rw [hsegs] at hc hC hsn hst
 obtain⟨sq,hsq⟩:∃ sq,st.sq=sq:=⟨_,rfl⟩
 obtain⟨par,hpar⟩:∃ par,st.par=par:=⟨_,rfl⟩
 rw [hsq,hpar] at hblk ⊢
 obtain⟨nm,hnm⟩:∃ nm,lvName l=nm:=⟨_,rfl⟩
 rw [hnm] at hblk ⊢
 obtain⟨n,hn⟩:∃ n,segs.length=n:=⟨_,rfl⟩
 obtain⟨m,hm⟩:∃ m,bs.length=m:=⟨_,rfl⟩
 rw [hn] at hblk hC hc hsn ⊢
 rw [hm] at hblk hl ⊢
 have HR:=Aside0.mk hblk
 have HU:=Aside0.mk hU
 have HC:=Aside0.mk hC
 have HST:=Aside0.mk hst
 have HN:=Aside0.mk hn
 have HM:=Aside0.mk hm
 have HCC:=Aside0.mk hc
 obtain⟨B,hBq⟩:∃ B,B=w0.heap.size:=⟨_,rfl⟩
 have HBQ:=Aside0.mk hBq
 have h70:=res70 w0 r A n c (hblk.cell 3)
 clear h hw0 hblk hU hC hst hn hm hc hsegs ht hmd hsq hpar hnm hBq
 go_enter Tryz.func35,Tryz.ntmps35
 go_wp2_with fail
 rw [<- HW.out]
 go_wp2_with (go_at_call 70;refine h70.mono ?_;rintro e w' ⟨rfl,rfl⟩)
 clear h70
 have hRn:Kd.R segKd 26 w0 B (fun k=>B<=k) (.slice none 0 0) (segs.take 0):=by rw [List.take_zero];exact Kd.R_nil segKd 26 w0 B _
 have HV:=Aside0.mk hRn
 have HBW:=Aside0.mk (show Below B w0 w0 from Below.refl _ _)
 have HBS:=Aside0.mk (show B<=w0.heap.size by rw [HBQ.out];exact Nat.le_refl _)
 clear hRn
 go_loopw [6,15] (fun v6 v15 wr=>∃ i:Nat,v15=.int .i64 (i:Int)/\i<=n/\Aside0 (Kd.R segKd 26 wr B (fun k=>B<=k) v6 (segs.take i))/\Aside0 (Below B w0 wr)/\Aside0 (B<=wr.heap.size)) (fun _ v15 _=>(n-intOf v15).toNat)
 case atStart=>exact⟨0,rfl,Nat.zero_le _,HV,HBW,HBS⟩
 case round=>
  clear HV HBW HBS
  obtain⟨i,rfl,hi,HV,HBW,HBS⟩:=hrel
  by_cases hin:i<n
  ·have hCr:Kd.C segKd wr A n segs:=Kd.C_below HC.out (by have:=HBW.out;rw [HBQ.out] at this;exact this)
   obtain⟨ad,A0,c0,e0,r0,l0,g0⟩:=F.at_L10 hCr (i:Int) (by omega) (by omega)
   rw [Int.toNat_natCast] at r0
   obtain⟨ys,hys⟩:∃ ys,F.rd_L10 segs i=ys:=⟨_,rfl⟩
   rw [hys] at r0 l0 g0
   have hyl:ys.length<=1000000:=by
    rw [<- hys]
    unfold F.rd_L10
    rw [Int.toNat_natCast,List.getD_eq_getElem?_getD,List.getElem?_eq_getElem (by rw [HN.out];exact hin)]
    exact HST.out _ (List.getElem_mem _)
   have HTK:=Aside0.mk (show segs.take (i+1)=segs.take i++[ys] by
    rw [List.take_succ_eq_append_getElem (by rw [HN.out];exact hin),<- hys]
    unfold F.rd_L10
    rw [Int.toNat_natCast,List.getD_eq_getElem?_getD,List.getElem?_eq_getElem (by rw [HN.out];exact hin)]
    rfl)
   have HTL:=Aside0.mk (show (segs.take i).length<=1000000 by rw [List.length_take];omega)
   have HG:=Aside0.mk (show ReadsInt wr .u8 A0 ys.length ys from Kd.reads_of_C g0)
   have HYL:=Aside0.mk hyl
   subst e0
   obtain⟨ny,hny⟩:∃ ny,ys.length=ny:=⟨_,rfl⟩
   have HNY:=Aside0.mk hny
   rw [hny] at r0 l0
   clear hCr g0 hys hyl hny
   go_wp2_with (first | ((with_reducible refine gate_builtin (b:=.append) (xs:=#[.const (.slice none 0 0),.tmp 20]) rfl ?_);at_builtin;refine print_append_row (w0:=w0) B rfl (.const (.slice none 0 0)) (.tmp 20) 26 5 .u8 1 rfl Tryz.underlying26 F.info5 (by decide) (.slice none 0 0) [] ys A0 ny c0 rfl rfl (own_nil' _ _) ?aR HBW.out HBS.out ?aL ?_;(case aR=>(have h1:=HG.out;rw [HNY.out] at h1;exact h1));(case aL=>(have:=HYL.out;have:=HNY.out;simp;omega));intro v1 w1 ho hb hg hat;rw [List.nil_append,HNY.out] at ho;obtain⟨A1,c1,hv1⟩:=own_slice ho;subst hv1;have HO1:=Aside0.mk ho;have HB1:=Aside0.mk hb;have HG1:=Aside0.mk hg;have HA1:=Aside0.mk hat;clear ho hb hg hat) | ((with_reducible refine gate_builtin (b:=.append) (xs:=#[.tmp 19,.tmp 22]) rfl ?_);at_builtin;refine Kd.R_append segKd (w0:=w0) B rfl (.tmp 19) (.tmp 22) 27 26 (.slice none 0 0) 24 rfl Tryz.underlying27 info26s rfl (by decide) (by decide) u6 (segs.take i) ys [.slice A1 ny c1] (fun k=>B<=k) (fun k=>(Value.slice A1 ny c1).ownBlock=some k) rfl rfl (seg_made HO1.out HNY.out) (seg_ok HO1.out (Kd.R_grown HV.out HG1.out (fun k _ h=>by cases h))) (fun k hk=>Nat.le_trans (Nat.le_trans HBS.out HG1.out.size) hk) (Kd.R_grown HV.out HG1.out (fun k _ h=>by cases h)) HB1.out (Nat.le_trans HBS.out HG1.out.size) ?bL ?_;(case bL=>(have:=HTL.out;omega));intro v2 w2 hr2 hb2 hg2 hat2;have HR2:=Aside0.mk hr2;have HB2:=Aside0.mk hb2;have HZ2:=Aside0.mk (Nat.le_trans (Nat.le_trans HBS.out HG1.out.size) hg2.size);clear hr2 hb2 hg2 hat2))
   go_roundw
   case rel=>exact⟨i+1,by go_num,by omega,⟨by rw [HTK.out];exact HR2.out⟩,HB2,HZ2⟩
   case measure=>simp [intOf];omega
  ·have:n=i:=by omega
   subst this
   have hseg:=HV.out
   rw [<- HN.out,List.take_length] at hseg
   obtain⟨As,cs,rfl,h6,hsC⟩:=Kd.R_reads hseg
   have HSR:=Aside0.mk hseg
   have HRC:=Aside0.mk (fun (W:World) (hb:Below B w0 W)=>HR.out.below hb (by rw [HBQ.out];exact HR.out.lt))
   have HRB:=Aside0.mk (show ReadsInt wr .u8 (some ⟨gt,0,none⟩) m (ints bs) by
    have h2:=(HU.out.below HBW.out (by rw [HBQ.out];exact HU.out.lt)).reads (by rw [HM.out];omega)
    rw [HM.out] at h2
    exact h2)
   have HSC:=Aside0.mk hsC
   have HS6:=Aside0.mk h6
   rw [HN.out] at HSC HS6
   obtain⟨N,hNN⟩:∃ N,N=n:=⟨_,rfl⟩
   clear hseg h6 hsC
   try rw [HN.out]
   go_wp2_with (first | (go_at_call 71;refine (res71 _ r t ((HRC.out _ HBW.out).cell 2)).mono ?_;rintro e w' ⟨rfl,rfl⟩) | (go_at_call 72;refine (res72 _ r _ m cg ((HRC.out _ HBW.out).cell 0)).mono ?_;rintro e w' ⟨rfl,rfl⟩) | (go_at_call 73;refine (res73 _ r nm ((HRC.out _ HBW.out).cell 4)).mono ?_;rintro e w' ⟨rfl,rfl⟩) | (go_at_call 74;refine (res74 _ r 0 ((HRC.out _ HBW.out).cell 5)).mono ?_;rintro e w' ⟨rfl,rfl⟩) | (go_at_call 75;refine (res75 _ r sq ((HRC.out _ HBW.out).cell 9)).mono ?_;rintro e w' ⟨rfl,rfl⟩) | (go_at_call 76;refine (res76 _ r par ((HRC.out _ HBW.out).cell 8)).mono ?_;rintro e w' ⟨rfl,rfl⟩) | (go_at_call 77;refine (res77 _ r md ((HRC.out _ HBW.out).cell 10)).mono ?_;rintro e w' ⟨rfl,rfl⟩) | ((with_reducible refine gate_builtin (b:=.append) (xs:=#[.const (.slice none 0 0),.tmp 28]) rfl ?_);at_builtin;refine print_append_row (w0:=w0) B rfl (.const (.slice none 0 0)) (.tmp 28) 26 5 .u8 1 rfl Tryz.underlying26 F.info5 (by decide) (.slice none 0 0) [] (ints bs) (some ⟨gt,0,none⟩) m cg rfl rfl (own_nil' _ _) HRB.out HBW.out HBS.out ?aL ?_;(case aL=>(simp;omega));intro v1 w1 ho hb hg hat;rw [List.nil_append,ints_len,HM.out] at ho;obtain⟨A1,c1,hv1⟩:=own_slice ho;subst hv1;have HO1:=Aside0.mk ho;have HG1:=Aside0.mk hg;clear HBW;have HBW:=Aside0.mk hb;have HD3:=Aside0.mk (HD0.out.below hb (by rw [HBQ.out];exact HD0.out.lt));have d0:=HD3.out.cell 0;have d1:=HD3.out.cell 1;have d2:=HD3.out.cell 2;have d3:=HD3.out.cell 3;have d4:=HD3.out.cell 4;have d5:=HD3.out.cell 5;have d6:=HD3.out.cell 6;have d7:=HD3.out.cell 7;have f0:=HD3.out.frozen 0;have f1:=HD3.out.frozen 1;have f2:=HD3.out.frozen 2;have f3:=HD3.out.frozen 3;have f4:=HD3.out.frozen 4;have f5:=HD3.out.frozen 5;have f6:=HD3.out.frozen 6;have f7:=HD3.out.frozen 7;clear ho hb hg hat))
   clear d0 d1 d2 d3 d4 d5 d6 d7 f0 f1 f2 f3 f4 f5 f6 f7
   obtain⟨w4,hw4⟩:∃ w4,w4=(((((((w1.setCell ⟨w.heap.size,0,none⟩ (.string t)).setCell ⟨w.heap.size,1,none⟩ (.slice A1 m c1)).setCell ⟨w.heap.size,2,none⟩ (.slice As n cs)).setCell ⟨w.heap.size,3,none⟩ (.string nm)).setCell ⟨w.heap.size,4,none⟩ (.int .i64 0)).setCell ⟨w.heap.size,5,none⟩ (.int .i64 sq)).setCell ⟨w.heap.size,6,none⟩ (.int .i64 par)).setCell ⟨w.heap.size,7,none⟩ (.int .i64 md):=⟨_,rfl⟩
   rw [<- hw4]
   have hT:Turn w1 w4 w.heap.size:=by
    rw [hw4]
    exact (((((((Turn.set _ _ _ _).trans (Turn.set _ _ _ _)).trans (Turn.set _ _ _ _)).trans (Turn.set _ _ _ _)).trans (Turn.set _ _ _ _)).trans (Turn.set _ _ _ _)).trans (Turn.set _ _ _ _)).trans (Turn.set _ _ _ _)
   have hD4:Blk w4 w.heap.size 29 #[.string t,.slice A1 m c1,.slice As n cs,.string nm,.int .i64 0,.int .i64 sq,.int .i64 par,.int .i64 md]:=by
    rw [hw4]
    exact blk_set (blk_set (blk_set (blk_set (blk_set (blk_set (blk_set (blk_set HD3.out 0 _) 1 _) 2 _) 3 _) 4 _) 5 _) 6 _) 7 _
   have c0:w4.cell? ⟨w.heap.size,0,none⟩=_:=hD4.cell 0
   have c1':w4.cell? ⟨w.heap.size,1,none⟩=_:=hD4.cell 1
   have c2:w4.cell? ⟨w.heap.size,2,none⟩=_:=hD4.cell 2
   have c3:w4.cell? ⟨w.heap.size,3,none⟩=_:=hD4.cell 3
   have c4:w4.cell? ⟨w.heap.size,4,none⟩=_:=hD4.cell 4
   have c5:w4.cell? ⟨w.heap.size,5,none⟩=_:=hD4.cell 5
   have c6:w4.cell? ⟨w.heap.size,6,none⟩=_:=hD4.cell 6
   have c7:w4.cell? ⟨w.heap.size,7,none⟩=_:=hD4.cell 7
   refine bodyPost_ret (v:=.tuple #[.agg #[.string t,.slice A1 m c1,.slice As n cs,.string nm,.int .i64 0,.int .i64 sq,.int .i64 par,.int .i64 md],.bool true]) (by simp [results,Tryz.results35,go_sem,c0,c1',c2,c3,c4,c5,c6,c7]) rfl ⟨_,rfl,⟨_,_,_,_,rfl,?_,?_⟩,?_⟩
   ·have hown:w4.ownsRow B 5 1 (.slice A1 m c1) m (nums .u8 (ints bs)):=own_move HO1.out fun k hk=>hT.block k (by have:=own_base HO1.out k hk;have:=HBQ.out;have:=HZ0.out;omega)
    have hml:(ints bs).length=m:=by rw [ints_len,HM.out]
    have hr:Kd.R (Kd.int .u8) 5 w4 B (fun k=>w.heap.size<=k) (.slice A1 m c1) (ints bs):=Kd.R_of_own (by rw [hml];exact hown) (fun k hk=>by have:=own_base hown k hk;have:=HBQ.out;have:=HZ0.out;omega)
    exact Kd.R_lower hr (by have:=HBQ.out;have:=HZ0.out;omega)
   ·have hr:Kd.R segKd 26 w4 B (fun k=>B<=k) (.slice As segs.length cs) segs:=Kd.R_step HSR.out fun k hk hlt=>(hT.block k (by have:=HBQ.out;have:=HZ0.out;omega)).trans (HG1.out.block k hlt (by intro h;cases h))
    have hq:=Kd.R_mono (Kd.R_lower hr (show w.heap.size<=B by have:=HBQ.out;have:=HZ0.out;omega)) (ok':=fun k=>w.heap.size<=k) (fun k hk=>by have:=HBQ.out;have:=HZ0.out;omega)
    rw [HN.out] at hq
    exact hq
   ·exact (HB0.out.trans (HBW.out.mono (by have:=HZ0.out;have:=HBQ.out;omega))).trans (hT.below (Nat.le_refl _))
theorem bytes_same (t:List Int)(hl:t.length<=100000):Ev (fun k=>F.laws_qrBytes.f k t t) true:=by
 have H:∀ (d i:Nat),i+d=t.length->Ev (fun k=>F.laws_qrBytes.l0 k t t (t.length:Int) (i:Int)) true:=by
  intro d
  induction d with
  | zero=>
   intro i hi
   refine Ev.step (f:=fun _=>some true) (fun k=>?_) (Ev.now _)
   rw [F.laws_qrBytes.l0,if_neg (by omega)]
  | succ d ih=>
   intro i hi
   refine Ev.step (fun k=>?_) (ih (i+1) (by omega))
   rw [F.laws_qrBytes.l0,if_pos (by omega),if_pos (by omega),if_pos (by omega),if_pos (by omega),if_pos rfl,w64n i (by omega)]
 exact Ev.congr (fun k=>by rw [F.laws_qrBytes.f,if_pos rfl];rfl) (H t.length 0 (by omega))
theorem bytes54 (w:World)(A0 A1:Option Addr)(c0 c1 k:Nat)(t:List Int)(hk:t.length=k)(hl:k<=100000)(h0:k<=c0)(h1:k<=c1)(r0:Kd.C (Kd.int .u8) w A0 k t)(r1:Kd.C (Kd.int .u8) w A1 k t) :
  Calls Tryz.prog 54 #[.slice A0 k c0,.slice A1 k c1] w fun e w'=>e=.returned (.bool true)/\Below w.heap.size w w':=by
 subst hk
 obtain⟨j,hj⟩:=(bytes_same t hl).rounds
 refine (F.laws_qrBytes.calls j A0 c0 t A1 c1 t true w r0 h0 r1 h1 hj).mono ?_
 rintro e w' ⟨rfl,hd⟩
 exact⟨rfl,hd.below⟩
def segs4 (l:List F.S98):List (List Int):=l.flatMap fun s=>if s.f0=4 then [s.f1] else []
theorem segs4_toSg (l:List F.S98)(h:∀ s∈l,s.f0=1\/s.f0=2\/s.f0=4):sgSegs (l.map toSg)=segs4 l:=by
 unfold sgSegs segs4
 rw [List.flatMap_map]
 apply flatMap_alike
 intro s hs
 rcases h s hs with e | e | e<;>simp [toSg,e]
theorem flat_toSg (l:List F.S98):sgText false (l.map toSg)=flatS l:=by
 unfold sgText flatS
 rw [List.flatMap_map]
 rfl
theorem segs4_snoc (l:List F.S98)(s:F.S98)(h:s.f0=4):segs4 (l++[s])=segs4 l++[s.f1]:=by simp [segs4,h]
theorem segs4_skip (l:List F.S98)(s:F.S98)(h:s.f0≠4):segs4 (l++[s])=segs4 l:=by simp [segs4,h]
theorem segs4_app (l k:List F.S98):segs4 (l++k)=segs4 l++segs4 k:=by simp [segs4]
theorem segs4_len (l:List F.S98):(segs4 l).length<=l.length:=by
 induction l with
 | nil=>simp [segs4]
 | cons s l ih=>
  have h0:segs4 (s :: l)=segs4 [s]++segs4 l:=segs4_app [s] l
  rw [h0,List.length_append,List.length_cons]
  have h1:(segs4 [s]).length<=1:=by unfold segs4;simp only [List.flatMap_cons,List.flatMap_nil,List.append_nil];split<;>simp
  omega
set_option maxHeartbeats 4000000 in
set_option maxRecDepth 8000 in
theorem says21 (w:World)(A:Option Addr)(c n lv base:Nat)(l:List F.S98)(bs:List Nat)(st:PS)(d:Value)(hd:DecIs w base lv bs st d)(hl:Kd.C F.k98 w A n l)(hn:l.length=n)(hb:∀ s∈l,s.f1.length<=10000/\∀ x∈s.f1,0<=x/\x<=255)(hn2:n<=10000)
  (hlv:lv<4) (ht:st.out=flatS l) (hs:st.segs=segs4 l) (ha:ascS l=true) :
  Calls Tryz.prog 21 #[d,.slice A n c,.int .i64 (lv:Int)] w fun e w'=>e=.returned (.bool true)/\Below w.heap.size w w':=by
 obtain⟨Ar,cr,As,cs,rfl,_,hsg⟩:=hd
 obtain⟨As',cs',he,hs6,hsC⟩:=Kd.R_reads hsg
 injection he with e1 e2 e3
 subst e1 e3
 clear e2
 rw [ht,hs]
 rw [hs] at hs6 hsC hsg
 obtain⟨M,hM⟩:∃ M,(segs4 l).length=M:=⟨_,rfl⟩
 rw [hM] at hs6 hsC ⊢
 obtain⟨tx,htx⟩:∃ tx,strOfNums (flatS l)=tx:=⟨_,rfl⟩
 rw [htx]
 obtain⟨md,hmd⟩:∃ md:Int,(if st.fc then 3 else 1)=md:=⟨_,rfl⟩
 rw [hmd]
 obtain⟨sq,hsq⟩:∃ sq,st.sq=sq:=⟨_,rfl⟩
 obtain⟨par,hpar⟩:∃ par,st.par=par:=⟨_,rfl⟩
 rw [hsq,hpar]
 obtain⟨m,hm⟩:∃ m,bs.length=m:=⟨_,rfl⟩
 rw [hm]
 obtain⟨nm,hnm⟩:∃ nm,lvName lv=nm:=⟨_,rfl⟩
 rw [hnm]
 have K24:=Aside0.mk (fun (W:World) (hb2:Below w.heap.size w W)=>by
  have h:=said24 W A c n l (Kd.C_below hl hb2) hn hb hn2
  rw [if_pos ha,htx] at h
  exact h)
 have K53:=Aside0.mk (fun (W:World)=>by
  have h:=name53 W lv hlv
  rw [hnm] at h
  exact h)
 have HC:=Aside0.mk hl
 have HN:=Aside0.mk hn
 have HS:=Aside0.mk hb
 have HM:=Aside0.mk hM
 have HSC:=Aside0.mk hsC
 have HS6:=Aside0.mk hs6
 have HSL:=Aside0.mk (show M<=n by rw [<- hM,<- hn];exact segs4_len l)
 clear hsg hs6 hsC hl hn hb hM hlv ht hs ha htx hmd hsq hpar hm hnm
 obtain⟨w0,hw0⟩:∃ w0,w0=w.alloc (.cells #[.string tx,.slice Ar m cr,.slice As M cs,.string nm,.int .i64 0,.int .i64 sq,.int .i64 par,.int .i64 md] 29):=⟨_,rfl⟩
 have HW:=Aside0.mk hw0
 have HB0:=Aside0.mk (show Below w.heap.size w w0 by rw [hw0];exact below_alloc (Below.refl _ _) _)
 have HD0:=Aside0.mk (show Blk w0 w.heap.size 29 #[.string tx,.slice Ar m cr,.slice As M cs,.string nm,.int .i64 0,.int .i64 sq,.int .i64 par,.int .i64 md] by rw [hw0];exact Blk.new _ _ _)
 have k24:=K24.out w0 HB0.out
 clear hw0
 go_enter Tryz.func21,Tryz.ntmps21
 go_wp2_with fail
 rw [<- HW.out]
 go_wp2_with (go_at_call 24;with_reducible (refine k24.mono ?_);rintro e w1 ⟨rfl,hb1⟩;have HB1:=Aside0.mk (HB0.out.trans (hb1.mono HB0.out.size));have HD1:=Aside0.mk (HD0.out.below hb1 HD0.out.lt);clear hb1)
 have d0:=HD1.out.cell 0
 have d3:=HD1.out.cell 3
 clear k24
 have k53:=K53.out w1.drew
 have k53':=K53.out w1
 go_region_with (go_at_call 53;first | (with_reducible (refine k53.mono ?_);rintro e w2 ⟨rfl,rfl⟩) | (with_reducible (refine k53'.mono ?_);rintro e w2 ⟨rfl,rfl⟩))
 all_goals
  clear d0 d3 k53 k53'
  have HB2:=Aside0.mk (show Below w.heap.size w w1.drew from ⟨HB1.out.os,HB1.out.tape,HB1.out.output,HB1.out.size,HB1.out.block⟩)
  have HD2:=Aside0.mk (show Blk w1.drew w.heap.size 29 #[.string tx,.slice Ar m cr,.slice As M cs,.string nm,.int .i64 0,.int .i64 sq,.int .i64 par,.int .i64 md] from HD1.out)
  go_wp2_with fail
  go_loopw [9,30] (fun v9 v30 wr=>∃ (i a:Nat),v30=.int .i64 (i:Int)/\v9=.int .i64 (a:Int)/\i<=n/\a<=i/\Aside0 ((segs4 (l.take i)).length=a)/\Aside0 (Below w.heap.size w wr)/\Aside0 (Blk wr w.heap.size 29 #[.string tx,.slice Ar m cr,.slice As M cs,.string nm,.int .i64 0,.int .i64 sq,.int .i64 par,.int .i64 md])) (fun _ v30 _=>(n-intOf v30).toNat)
  case atStart=>exact⟨0,0,rfl,rfl,Nat.zero_le _,Nat.zero_le _,⟨rfl⟩,HB2,HD2⟩
  case round=>
   clear HB1 HD1 HB2 HD2
   obtain⟨i,a,rfl,rfl,hi,hai,HAT,HB,HD⟩:=hrel
   by_cases hin:i<n
   ·obtain⟨ad,A1,c1,e0,r0,r1,l1,g1⟩:=F.at_T98 HC.out (i:Int) (by omega) (by omega)
    rw [Int.toNat_natCast] at r0 r1
    obtain⟨s,hss⟩:∃ s,F.rd_T98 l i=s:=⟨_,rfl⟩
    rw [hss] at r0 r1 l1 g1
    have hgi:l[i]? = some s:=by
     have hlt:i<l.length:=by rw [HN.out];exact hin
     rw [List.getElem?_eq_getElem hlt,<- hss]
     unfold F.rd_T98
     rw [Int.toNat_natCast,List.getD_eq_getElem?_getD,List.getElem?_eq_getElem hlt]
     rfl
    have hso:=HS.out s (List.mem_of_getElem? hgi)
    have htk:l.take (i+1)=l.take i++[s]:=by rw [List.take_add_one,hgi];rfl
    obtain⟨mo,hmo⟩:∃ mo,s.f0=mo:=⟨_,rfl⟩
    obtain⟨k,hk⟩:∃ k,s.f1.length=k:=⟨_,rfl⟩
    rw [hmo] at r0
    rw [hk] at r1 l1 g1
    subst e0
    replace r0:=cell_up HB.out r0
    replace r1:=cell_up HB.out r1
    have hk9:k<=10000:=by rw [<- hk];exact hso.1
    obtain⟨wa,hwa⟩:∃ wa,wa=wr.alloc (.cells #[.int .i64 mo,.slice A1 k c1] 98):=⟨_,rfl⟩
    have HWA:=Aside0.mk hwa
    have HBA:=Aside0.mk (show Below w.heap.size w wa by rw [hwa];exact HB.out.alloc HB.out.size _)
    have HSA:=Aside0.mk (show Blk wa wr.heap.size 98 #[.int .i64 mo,.slice A1 k c1] by rw [hwa];exact Blk.new _ _ _)
    have HDA:=Aside0.mk (show Blk wa w.heap.size 29 #[.string tx,.slice Ar m cr,.slice As M cs,.string nm,.int .i64 0,.int .i64 sq,.int .i64 par,.int .i64 md] by rw [hwa];exact Blk.below HD.out (below_alloc (Below.refl wr.heap.size wr) _) HD.out.lt)
    have s0:=HSA.out.cell 0
    have s1:=HSA.out.cell 1
    have d2:=HDA.out.cell 2
    by_cases hm4:mo=4
    ·subst hm4
     have HNX:=Aside0.mk (show (segs4 (l.take (i+1))).length=a+1 by rw [htk,segs4_snoc _ _ hmo,List.length_append,HAT.out];rfl)
     have hpre:segs4 l=segs4 (l.take i)++s.f1 :: segs4 (l.drop (i+1)):=by
      have h1:l=l.take (i+1)++l.drop (i+1):=(List.take_append_drop _ _).symm
      conv=>lhs;rw [h1,segs4_app,htk,segs4_snoc _ _ hmo]
      simp
     have haM:a<M:=by
      have h2:=congrArg List.length hpre
      rw [HM.out,List.length_append,HAT.out,List.length_cons] at h2
      omega
     obtain⟨a2,A2,c2,e2,r2,l2,g2⟩:=F.at_L10 HSC.out (a:Int) (by omega) (by omega)
     have hrd:F.rd_L10 (segs4 l) (a:Int)=s.f1:=by
      unfold F.rd_L10
      rw [Int.toNat_natCast,hpre,List.getD_eq_getElem?_getD,List.getElem?_append_right (by rw [HAT.out];exact Nat.le_refl _),HAT.out,Nat.sub_self]
      rfl
     rw [hrd,hk] at r2 l2 g2
     rw [Int.toNat_natCast] at r2
     subst e2
     replace r2:=cell_up HBA.out r2
     have HK54:=Aside0.mk (fun (W:World) (hb:Below w.heap.size w W)=>bytes54 W A2 A1 c2 c1 k s.f1 hk (by omega) l2 l1 (Kd.C_below g2 hb) (Kd.C_below g1 hb))
     have HBD:=Aside0.mk (show Below w.heap.size w wa.drew from ⟨HBA.out.os,HBA.out.tape,HBA.out.output,HBA.out.size,HBA.out.block⟩)
     have k54:=HK54.out wa.drew HBD.out
     have HDD:=Aside0.mk (show Blk wa.drew w.heap.size 29 _ from HDA.out)
     have hge:decide (M<=a)=false:=decide_eq_false (by omega)
     clear hss hgi hso htk hmo hk hwa g1 g2 hpre hrd l1 l2
     go_wp2_with fail
     rw [<- HWA.out]
     go_wp2_with fail
     go_region_with (go_at_call 54;with_reducible (refine k54.mono ?_);rintro e w5 ⟨rfl,hb5⟩;have HB5:=Aside0.mk (HBD.out.trans (hb5.mono HBD.out.size));have HD5:=Aside0.mk (HDD.out.below hb5 HDD.out.lt);clear hb5)
     all_goals
      clear s0 s1 d2 r0 r1 r2 k54
      go_wp2_with fail
      go_roundw
      case rel=>exact⟨i+1,a+1,by go_num,by go_num,by omega,by omega,HNX,HB5,HD5⟩
      case measure=>simp [intOf]<;>omega
    ·have HNX:=Aside0.mk (show (segs4 (l.take (i+1))).length=a by rw [htk,segs4_skip _ _ (by rw [hmo];exact hm4),HAT.out])
     clear hss hgi hso htk hmo hk hwa g1 l1
     go_wp2_with fail
     rw [<- HWA.out]
     clear s0 s1 d2 r0 r1
     go_roundw
     case rel=>exact⟨i+1,a,by go_num,rfl,by omega,by omega,HNX,HBA,HDA⟩
     case measure=>simp [intOf]<;>omega
   ·have hie:i=n:=by omega
    subst hie
    have haM:a=M:=by rw [<- HAT.out,<- HM.out,List.take_of_length_le (by rw [HN.out];exact Nat.le_refl _)]
    subst haM
    have d2:=HD.out.cell 2
    go_wp2_with fail
    go_ret
    exact⟨by simp,HB.out⟩
theorem fits9_some (a:Int)(t:List Int):∃ b,F.laws_zzFits9.f a t=some b:=by
 unfold F.laws_zzFits9.f
 split<;>exact⟨_,rfl⟩
theorem fits8_some (l:List F.S98):∃ b,Ev (fun k=>F.laws_zzFits8.f k l) b:=by
 by_cases hl:(l.length:Int)>2147483647
 ·exact⟨false,Ev.congr (fun k=>by rw [F.laws_zzFits8.f,if_pos hl]) (Ev.now _)⟩
 ·have H:∀ (d i:Nat),i+d=l.length->∃ b,Ev (fun k=>F.laws_zzFits8.l0 k l (l.length:Int) (i:Int)) b:=by
   intro d
   induction d with
   | zero=>
    intro i hi
    refine⟨true,Ev.step (f:=fun _=>some true) (fun k=>?_) (Ev.now _)⟩
    rw [F.laws_zzFits8.l0,if_neg (by omega)]
   | succ d ih=>
    intro i hi
    obtain⟨b,hb⟩:=fits9_some ((F.rd_T98 l (i:Int)).f0) ((F.rd_T98 l (i:Int)).f1)
    cases b with
    | false=>
     refine⟨false,Ev.step (f:=fun _=>some false) (fun k=>?_) (Ev.now _)⟩
     rw [F.laws_zzFits8.l0,if_pos (by omega),if_pos (by omega),if_pos (by omega),hb]
     rfl
    | true=>
     obtain⟨r,hr⟩:=ih (i+1) (by omega)
     refine⟨r,Ev.step (fun k=>?_) hr⟩
     rw [F.laws_zzFits8.l0,if_pos (by omega),if_pos (by omega),if_pos (by omega),hb,Option.bind_some,if_pos rfl,w64n i (by omega)]
  obtain⟨b,hb⟩:=H l.length 0 (by omega)
  exact⟨b,Ev.congr (fun k=>by rw [F.laws_zzFits8.f,if_neg hl];rfl) hb⟩
theorem level_some (a:Nat)(h:a<256):F.laws_qrLevel.f (a:Int)=some ((a%4:Nat):Int):=by
 unfold F.laws_qrLevel.f
 have e1:wrap64 (a:Int)=(a:Int):=by unfold wrap64;omega
 rw [e1,Int.tmod_eq_emod_of_nonneg (by omega)]
 rfl
theorem mask_some (a:Nat)(h:a<256):F.laws_qrMask.f (a:Int)=some ((a%8:Nat):Int):=by
 unfold F.laws_qrMask.f
 have e1:wrap64 (a:Int)=(a:Int):=by unfold wrap64;omega
 rw [e1,Int.tmod_eq_emod_of_nonneg (by omega)]
 rfl
theorem tbyte_in (md x:Int)(hx:0<=x/\x<=255):32<=tbyte md x/\tbyte md x<=126:=by
 unfold tbyte
 split
 ·omega
 ·split
  ·have:=alCh_range ⟨(x%45).toNat,by omega⟩
   simp only at this
   omega
  ·omega
theorem tseg_ok (long:Nat)(s:F.S98)(v:Nat)(hs:SegIn s)(hl:long<=200):SegOK (tseg long s) v/\(tseg long s).f1.all isAsc=true:=by
 have hmem:∀ y∈(tseg long s).f1,∃ x,(0<=x/\x<=255)/\y=tbyte (tmode s.f0) x:=by
  intro y hy
  obtain⟨x,hx,rfl⟩:=List.mem_map.1 hy
  exact⟨x,hs.2 x (List.mem_of_mem_take hx),rfl⟩
 have hlen:(tseg long s).f1.length<=200:=by
  unfold tseg
  rw [List.length_map,List.length_take]
  omega
 refine⟨⟨tmode_cases _,?_,?_,?_,?_,?_⟩,?_⟩
 ·intro hm y hy
  obtain⟨x,hx,rfl⟩:=hmem y hy
  have hm:tmode s.f0=1:=hm
  unfold tbyte isDig
  rw [if_pos hm]
  omega
 ·intro hm y hy
  obtain⟨x,hx,rfl⟩:=hmem y hy
  have hm:tmode s.f0=2:=hm
  unfold tbyte
  rw [if_neg (by omega),if_pos hm]
  have h1:(x%45).toNat<45:=by omega
  rw [alNum_look ⟨_,h1⟩]
  exact h1
 ·intro y hy
  obtain⟨x,hx,rfl⟩:=hmem y hy
  have:=tbyte_in (tmode s.f0) x hx
  omega
 ·have h8:8<=cntBits (tseg long s).f0.toNat v:=by
   have:(tseg long s).f0=1\/(tseg long s).f0=2\/(tseg long s).f0=4:=tmode_cases _
   unfold cntBits
   rcases this with e | e | e<;>rw [e]<;>simp<;>(repeat' split)<;>omega
  have:=Nat.pow_le_pow_right (show 0<2 by decide) h8
  omega
 ·omega
 ·rw [List.all_eq_true]
  intro y hy
  obtain⟨x,hx,rfl⟩:=hmem y hy
  have:=tbyte_in (tmode s.f0) x hx
  unfold isAsc
  exact decide_eq_true this
def symData (v l:Nat)(ws:List Nat):List Nat:=dataOf (lvC v l) (lvD v l) (lvC2 v l) (lvE v l) ws (lvC v l+lvC2 v l)
structure SymOK (v dn:Nat)(f:Nat->Nat->Bool)(st:PS):Prop where
 hv:1<=v/\v<=40
 ver:VerOK f v
 dn32:dn<32
 fmt:fmtGo (nacc (fat1 f) 15) (nacc (fat2 f (17+4*v)) 15) fmtTab (2147483647,0)=some dn
 clean:Clean (lvC v (dn/8)) (lvD v (dn/8)) (lvC2 v (dn/8)) (lvE v (dn/8)) (wordsOf v (dn%8) f)
 says:Rd (symData v (dn/8) (wordsOf v (dn%8) f)) v ⟨0,[],[],false,-1,-1⟩ (some st)
theorem symData_len (v l:Nat)(ws:List Nat)(hv:1<=v/\v<=40)(hl:l<4):(symData v l ws).length<=10000:=by
 unfold symData
 rw [dataOf_len]
 have L:=lay_at v l hv hl
 have h1:=L.tot
 have h2:=(tot_row v hv).2
 have h3:befD (lvC v l) (lvD v l) (lvC v l+lvC2 v l)=lvD v l*(lvC v l+lvC2 v l)+lvC2 v l:=by unfold befD;omega
 omega
theorem symData_lt (v l:Nat)(ws:List Nat)(hC:Clean (lvC v l) (lvD v l) (lvC2 v l) (lvE v l) ws):AllLt 8 (symData v l ws):=by
 intro x hx
 unfold symData dataOf at hx
 obtain⟨j,hj,hxj⟩:=List.mem_flatMap.1 hx
 exact hC.small j (List.mem_range.1 hj) x (List.mem_of_mem_take hxj)
theorem said149 (w:World)(dd rs gf p g b v dn:Nat)(f:Nat->Nat->Bool)(hint:Value)(st:PS)(S:SymOK v dn f st)(hD:DecAt w dd rs gf)(hP:Parser w p g v (.pointer none))(G:Grid w g b (17+4*v) (17+4*v) f)(hgp:g≠p)(hbp:b≠p) :
  Calls Tryz.prog 149 #[.pointer (some ⟨dd,0,none⟩),.pointer (some ⟨p,0,none⟩),hint] w fun e w'=>∃ r gt,e=.returned (.tuple #[.pointer (some ⟨r,0,none⟩),.nilIface])/\w.heap.size<=r/\ResIs w' r gt (dn/8) (symData v (dn/8) (wordsOf v (dn%8) f)) st/\Upd2 w w' p b:=by
 have hl4:dn/8<4:=by have:=S.dn32;omega
 have hsl:=symData_len v (dn/8) (wordsOf v (dn%8) f) S.hv hl4
 refine decodeTo w dd rs gf p g b v dn (dn/8) f hint _ _ hD hP S.dn32 S.fmt G S.hv S.ver hgp hbp rfl hl4 rfl S.clean ?_
 intro W gt pv hU hV hu hgt
 refine (parseWalk W gt _ _ pv (dn/8) v (symData v (dn/8) (wordsOf v (dn%8) f)) hint (some st) (UBlk.r hU) ((UBlk.cap hU).trans (by rw [dataOf_len])) (by unfold symData;rw [dataOf_len]) hV S.hv hl4 (symData_lt _ _ _ S.clean) (by omega) S.says).mono ?_
 intro e w' hd
 obtain⟨r,rfl,h1,h2,h3⟩:=ParseDone.res hd (UBlk.r hU) (by rw [dataOf_len]) (show (symData v (dn/8) (wordsOf v (dn%8) f)).length<=100000 by omega) S.says
 exact⟨_,_,rfl,r,gt,rfl,Nat.le_trans hu.size h1,h2,hu.trans_below h3⟩
theorem said126 (w:World)(dd rs gf g b v dn:Nat)(f:Nat->Nat->Bool)(hint:Value)(st:PS)(S:SymOK v dn f st)(hD:DecAt w dd rs gf)(G:Grid w g b (17+4*v) (17+4*v) f) :
  Calls Tryz.prog 126 #[.pointer (some ⟨dd,0,none⟩),.pointer (some ⟨g,0,none⟩),hint] w fun e w'=>∃ r gt,e=.returned (.tuple #[.pointer (some ⟨r,0,none⟩),.nilIface])/\w.heap.size<=r/\ResIs w' r gt (dn/8) (symData v (dn/8) (wordsOf v (dn%8) f)) st/\Upd w w' b:=by
 have hv:=S.hv
 have kp:=newParser_ok w g b (17+4*v) (17+4*v) f G (by omega) (by omega) (by omega)
 have hgl:=G.lt
 have K:=Aside0.mk (fun hint=>said149 (w.alloc (.cells (parserCells g) 144)) dd rs gf w.heap.size g b v dn f hint st S (hD.below (below_alloc (Below.refl _ _) _) (Nat.le_refl _)) ⟨_,Blk.new _ _ _,.inl rfl⟩ (G.below (below_alloc (Below.refl _ _) _) hgl.1 hgl.2) (by omega) (by omega))
 obtain⟨D,hDD⟩:∃ D,symData v (dn/8) (wordsOf v (dn%8) f)=D:=⟨_,rfl⟩
 rw [hDD] at K ⊢
 obtain⟨l,hl⟩:∃ l,dn/8=l:=⟨_,rfl⟩
 rw [hl] at K ⊢
 clear S hD G hDD hl hv
 go_enter Tryz.func126,Tryz.ntmps126
 go_wp2_with (first | (go_at_call 82;refine kp.mono ?_;rintro e w1 ⟨rfl,rfl⟩) | (go_at_call 149;refine (K.out _).mono ?_;rintro e w2 ⟨r,gt,rfl,h1,h2,h3⟩;have H2:=Aside0.mk h2;have H3:=Aside0.mk h3;clear h2 h3))
 go_ret2
 have h3:=H3.out
 refine⟨r,gt,rfl,by simp at h1;omega,H2.out,⟨h3.os,h3.tape,h3.output,by have:=h3.size;simp at this;omega,fun k hk hkb=>?_⟩⟩
 rw [h3.block k (by simp;omega) (by omega) hkb]
 exact Below.heap_alloc w _ k hk
theorem said80 (w:World)(dd rs gf v dn:Nat)(A:Option Addr)(c:Nat)(rows:List (List Bool))(hint:Value)(st:PS)(S:SymOK v dn (cellOf rows) st)(hD:DecAt w dd rs gf)(hr:BRows w A rows)(hc:rows.length<=c)(hs:Square rows (17+4*v)) :
  Calls Tryz.prog 80 #[.pointer (some ⟨dd,0,none⟩),.slice A (17+4*v) c,hint] w fun e w'=>∃ r gt,e=.returned (.tuple #[.pointer (some ⟨r,0,none⟩),.nilIface])/\w.heap.size<=r/\ResIs w' r gt (dn/8) (symData v (dn/8) (wordsOf v (dn%8) (cellOf rows))) st/\Below w.heap.size w w':=by
 have hv:=S.hv
 obtain⟨n,hn⟩:∃ n,17+4*v=n:=⟨_,rfl⟩
 have kp:=parseMap w A c rows n n hr hc (by rw [hs.len,hn]) (by omega) (by omega) (by rw [hs.head,hn]) (by omega) (by omega) (by rw [<- hn];exact hs.row)
 have HD:=Aside0.mk hD
 have K:=Aside0.mk (fun (W:World) (g b:Nat) (h:DecAt W dd rs gf) (G:Grid W g b n n (cellOf rows))=>said126 W dd rs gf g b v dn (cellOf rows) hint st S h (by rw [hn];exact G))
 rw [hn]
 obtain⟨D,hDD⟩:∃ D,symData v (dn/8) (wordsOf v (dn%8) (cellOf rows))=D:=⟨_,rfl⟩
 rw [hDD] at K ⊢
 obtain⟨l,hl⟩:∃ l,dn/8=l:=⟨_,rfl⟩
 rw [hl] at K ⊢
 clear S hD hr hc hs hv hn hDD hl
 go_enter Tryz.func80,Tryz.ntmps80
 go_wp2_with (first | (go_at_call 125;refine kp.mono ?_;rintro e w1 ⟨rfl,hG,hb1⟩;have HG:=Aside0.mk hG;have HB1:=Aside0.mk hb1;have HD1:=Aside0.mk (HD.out.below hb1 (Nat.le_refl _));clear hG hb1) | (go_at_call 126;refine (K.out _ _ _ HD1.out HG.out).mono ?_;rintro e w2 ⟨r,gt,rfl,h1,h2,h3⟩;have H2:=Aside0.mk h2;have H3:=Aside0.mk h3;clear h2 h3))
 go_ret2
 exact⟨r,gt,rfl,Nat.le_trans HB1.out.size h1,H2.out,H3.out.below HB1.out (Nat.le_refl _) HB1.out.size⟩
theorem said37 (w:World)(dd rs gf v dn:Nat)(A:Option Addr)(c:Nat)(rows:List (List Bool))(st:PS)(S:SymOK v dn (cellOf rows) st)(hD:DecAt w dd rs gf)(hr:BRows w A rows)(hc:rows.length<=c)(hs:Square rows (17+4*v)) :
  Calls Tryz.prog 37 #[.pointer (some ⟨dd,0,none⟩),.slice A (17+4*v) c] w fun e w'=>∃ r gt,e=.returned (.tuple #[.pointer (some ⟨r,0,none⟩),.nilIface])/\w.heap.size<=r/\ResIs w' r gt (dn/8) (symData v (dn/8) (wordsOf v (dn%8) (cellOf rows))) st/\Below w.heap.size w w':=by
 have k:=said80 w dd rs gf v dn A c rows (.map none) st S hD hr hc hs
 obtain⟨D,hDD⟩:∃ D,symData v (dn/8) (wordsOf v (dn%8) (cellOf rows))=D:=⟨_,rfl⟩
 rw [hDD] at k ⊢
 obtain⟨l,hl⟩:∃ l,dn/8=l:=⟨_,rfl⟩
 rw [hl] at k ⊢
 clear S hD hr hc hs hDD hl
 go_enter Tryz.func37,Tryz.ntmps37
 go_wp2_with (go_at_call 80;refine k.mono ?_;rintro e w2 ⟨r,gt,rfl,h1,h2,h3⟩;have H2:=Aside0.mk h2;have H3:=Aside0.mk h3;clear h2 h3)
 go_ret2
 exact⟨r,gt,rfl,h1,H2.out,H3.out⟩
set_option maxHeartbeats 2000000 in
set_option maxRecDepth 100000 in
theorem said12 (w:World)(v dn:Nat)(A:Option Addr)(c:Nat)(rows:List (List Bool))(st:PS)(S:SymOK v dn (cellOf rows) st)(hr:BRows w A rows)(hc:rows.length<=c)(hs:Square rows (17+4*v)) :
  Calls Tryz.prog 12 #[.slice A (17+4*v) c] w fun e w'=>∃ x,e=.returned (.tuple #[x,.bool true])/\DecIs w' w.heap.size (dn/8) (symData v (dn/8) (wordsOf v (dn%8) (cellOf rows))) st x/\Below w.heap.size w w':=by
 have hl4:dn/8<4:=by have:=S.dn32;omega
 have hDl:(symData v (dn/8) (wordsOf v (dn%8) (cellOf rows))).length<=100000:=Nat.le_trans (symData_len v (dn/8) _ S.hv hl4) (by decide)
 obtain⟨w0,hw0⟩:∃ w0,w0=w.alloc (.cells #[.string ⟨#[]⟩,.slice none 0 0,.slice none 0 0,.string ⟨#[]⟩,.int .i64 0,.int .i64 0,.int .i64 0,.int .i64 0] 29):=⟨_,rfl⟩
 have HB0:=Aside0.mk (show Below w.heap.size w w0 by rw [hw0];exact below_alloc (Below.refl _ _) _)
 have HD0:=Aside0.mk (show Blk w0 w.heap.size 29 #[.string ⟨#[]⟩,.slice none 0 0,.slice none 0 0,.string ⟨#[]⟩,.int .i64 0,.int .i64 0,.int .i64 0,.int .i64 0] by rw [hw0];exact Blk.new _ _ _)
 have HZ0:=Aside0.mk (show w0.heap.size=w.heap.size+1 by rw [hw0];simp)
 have HW:=Aside0.mk hw0
 have HR0:=Aside0.mk (Kd.C_below hr HB0.out)
 have K:=Aside0.mk (fun (W:World) (dd rs gf:Nat) (h:DecAt W dd rs gf) (hb:BRows W A rows)=>said37 W dd rs gf v dn A c rows st S h hb hc hs)
 obtain⟨D,hDD⟩:∃ D,symData v (dn/8) (wordsOf v (dn%8) (cellOf rows))=D:=⟨_,rfl⟩
 rw [hDD] at K hDl ⊢
 obtain⟨l,hl⟩:∃ l,dn/8=l:=⟨_,rfl⟩
 rw [hl] at K ⊢
 obtain⟨n,hn⟩:∃ n,17+4*v=n:=⟨_,rfl⟩
 rw [hn] at K ⊢
 have HDL:=Aside0.mk hDl
 clear S hr hc hs hDD hl hn hl4 hw0 hDl
 go_enter Tryz.func12,Tryz.ntmps12
 go_wp2_with fail
 rw [<- HW.out]
 refine (newDec w0).mono ?_
 rintro e w1 ⟨d,rs,gf,rfl,_,_,_,hD1,hb1⟩
 have HB1:=Aside0.mk hb1
 have HD1:=Aside0.mk hD1
 clear hb1 hD1
 go_wp2_with fail
 refine (K.out w1 d rs gf HD1.out (Kd.C_below HR0.out HB1.out)).mono ?_
 rintro e w2 ⟨r,gt,rfl,hrl,hR,hb2⟩
 have HB2:=Aside0.mk (HB1.out.trans (hb2.mono HB1.out.size))
 have HR2:=Aside0.mk hR
 clear hb2 hR hrl
 go_wp2_with fail
 refine (decodedOK w2 r gt l D st HR2.out HDL.out).mono ?_
 rintro e w3 ⟨x,rfl,⟨Ar,cr,As,cs,rfl,h1,h2⟩,hb3⟩
 have HB3:=Aside0.mk (HB2.out.trans (hb3.mono HB2.out.size))
 have HD3:=Aside0.mk (HD0.out.below HB3.out HD0.out.lt)
 have HBB:=Aside0.mk (show w.heap.size<w2.heap.size by have:=HZ0.out;have:=HB2.out.size;omega)
 have HDI:=Aside0.mk (show DecIs w3 w2.heap.size l D st _ from ⟨Ar,cr,As,cs,rfl,h1,h2⟩)
 obtain⟨t,ht⟩:∃ t,strOfNums st.out=t:=⟨_,rfl⟩
 obtain⟨md,hmd⟩:∃ md:Int,(if st.fc then 3 else 1)=md:=⟨_,rfl⟩
 obtain⟨sq,hsq⟩:∃ sq,st.sq=sq:=⟨_,rfl⟩
 obtain⟨par,hpar⟩:∃ par,st.par=par:=⟨_,rfl⟩
 obtain⟨nm,hnm⟩:∃ nm,lvName l=nm:=⟨_,rfl⟩
 obtain⟨n2,hn2⟩:∃ n2,st.segs.length=n2:=⟨_,rfl⟩
 obtain⟨m,hm⟩:∃ m,D.length=m:=⟨_,rfl⟩
 rw [ht,hmd,hsq,hpar,hnm,hn2,hm]
 have HT:=Aside0.mk ht
 have HMD:=Aside0.mk hmd
 have HSQ:=Aside0.mk hsq
 have HPAR:=Aside0.mk hpar
 have HNM:=Aside0.mk hnm
 have HN2:=Aside0.mk hn2
 have HM:=Aside0.mk hm
 have d0:=HD3.out.cell 0
 have d1:=HD3.out.cell 1
 have d2:=HD3.out.cell 2
 have d3:=HD3.out.cell 3
 have d4:=HD3.out.cell 4
 have d5:=HD3.out.cell 5
 have d6:=HD3.out.cell 6
 have d7:=HD3.out.cell 7
 have f0:=HD3.out.frozen 0
 have f1:=HD3.out.frozen 1
 have f2:=HD3.out.frozen 2
 have f3:=HD3.out.frozen 3
 have f4:=HD3.out.frozen 4
 have f5:=HD3.out.frozen 5
 have f6:=HD3.out.frozen 6
 have f7:=HD3.out.frozen 7
 clear hb3 h1 h2 ht hmd hsq hpar hnm hn2 hm
 go_wp2
 clear d0 d1 d2 d3 d4 d5 d6 d7 f0 f1 f2 f3 f4 f5 f6 f7
 obtain⟨w4,hw4⟩:∃ w4,w4=(((((((w3.setCell ⟨w.heap.size,0,none⟩ (.string t)).setCell ⟨w.heap.size,1,none⟩ (.slice Ar m cr)).setCell ⟨w.heap.size,2,none⟩ (.slice As n2 cs)).setCell ⟨w.heap.size,3,none⟩ (.string nm)).setCell ⟨w.heap.size,4,none⟩ (.int .i64 0)).setCell ⟨w.heap.size,5,none⟩ (.int .i64 sq)).setCell ⟨w.heap.size,6,none⟩ (.int .i64 par)).setCell ⟨w.heap.size,7,none⟩ (.int .i64 md):=⟨_,rfl⟩
 rw [<- hw4]
 have hT:Turn w3 w4 w.heap.size:=by
  rw [hw4]
  exact (((((((Turn.set _ _ _ _).trans (Turn.set _ _ _ _)).trans (Turn.set _ _ _ _)).trans (Turn.set _ _ _ _)).trans (Turn.set _ _ _ _)).trans (Turn.set _ _ _ _)).trans (Turn.set _ _ _ _)).trans (Turn.set _ _ _ _)
 have hD4:Blk w4 w.heap.size 29 #[.string t,.slice Ar m cr,.slice As n2 cs,.string nm,.int .i64 0,.int .i64 sq,.int .i64 par,.int .i64 md]:=by
  rw [hw4]
  exact blk_set (blk_set (blk_set (blk_set (blk_set (blk_set (blk_set (blk_set HD3.out 0 _) 1 _) 2 _) 3 _) 4 _) 5 _) 6 _) 7 _
 have c0:w4.cell? ⟨w.heap.size,0,none⟩=_:=hD4.cell 0
 have c1:w4.cell? ⟨w.heap.size,1,none⟩=_:=hD4.cell 1
 have c2:w4.cell? ⟨w.heap.size,2,none⟩=_:=hD4.cell 2
 have c3:w4.cell? ⟨w.heap.size,3,none⟩=_:=hD4.cell 3
 have c4:w4.cell? ⟨w.heap.size,4,none⟩=_:=hD4.cell 4
 have c5:w4.cell? ⟨w.heap.size,5,none⟩=_:=hD4.cell 5
 have c6:w4.cell? ⟨w.heap.size,6,none⟩=_:=hD4.cell 6
 have c7:w4.cell? ⟨w.heap.size,7,none⟩=_:=hD4.cell 7
 have hbel:Below w.heap.size w w4:=(HB0.out.trans (HB3.out.mono HB0.out.size)).trans (hT.below (Nat.le_refl _))
 refine bodyPost_ret (v:=.tuple #[.agg #[.string t,.slice Ar m cr,.slice As n2 cs,.string nm,.int .i64 0,.int .i64 sq,.int .i64 par,.int .i64 md],.bool true]) (by simp [results,Tryz.results12,go_sem,c0,c1,c2,c3,c4,c5,c6,c7]) rfl ⟨_,rfl,?_,hbel⟩
 have hd:=(HDI.out.move (w':=w4) fun k hk hlt=>hT.block k (by have:=HBB.out;omega)).lower (Nat.le_of_lt HBB.out)
 rw [HT.out,HMD.out,HSQ.out,HPAR.out,HNM.out,HN2.out,HM.out] at hd
 exact hd
end Go.Proofs.YtgccjgpdjkhpdaaGreat.B
