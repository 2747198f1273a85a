import Derived.Deep.RegionWith
import Derived.Test.YtgccjgpdjkhpdaaGreatVQ28
/-! Own texts of this claim, part 30. -/
namespace Go.Proofs.YtgccjgpdjkhpdaaGreat.B
open Go.RowKit Go.Proofs.YtgccjgpdjkhpdaaGreatW.PrintWords Go.Proofs.YtgccjgpdjkhpdaaGreatW.PrintLast Go.Proofs.YtgccjgpdjkhpdaaGreatW.PrintMore
set_option linter.unusedVariables false
set_option linter.unusedSimpArgs false
def ParseDone (w:World)(g n c l:Nat)(R:Option PS)(e:Ending)(w':World):Prop :=
 match R with
 | some st=>∃ r vs vx qs,e=.returned (.tuple #[.pointer (some ⟨r,0,none⟩),.nilIface])/\w.heap.size<=r/\
   Blk w' r 194 #[.slice (some ⟨g,0,none⟩) n c,.int .i64 (8*(n:Int)),.string (strOfNums st.out),vs,.string (lvName l),.int .i64 0,.int .i64 0,.nilIface,.int .i64 st.par,.int .i64 st.sq,.int .i64 (if st.fc then 3 else 1)]/\
   SegsAt w' w.heap.size vs vx qs st.segs/\Below w.heap.size w w'
 | none=>∃ x,e=.returned (.tuple #[.pointer none,.iface 208 x])/\Below w.heap.size w w'
theorem ParseDone.bad {w w':World}{g n c l:Nat}{R:Option PS}{x:Value}(h:R=none)(hb:Below w.heap.size w w'):ParseDone w g n c l R (.returned (.tuple #[.pointer none,.iface 208 x])) w':=by
 subst h
 exact⟨x,rfl,hb⟩
theorem ParseDone.fine {w w' wr:World}{g n c l r s B0:Nat}{bs:List Nat}{pos:Nat}{R:Option PS}{v11 v12 vs:Value}{qs:List Nat}{out:List Int}{segs:List (List Int)}{fc:Bool}{sq par md:Int}{pos':Nat}(h:R=some ⟨pos',out,segs,fc,sq,par⟩)(hB:B0=w.heap.size)
  (hM:PMem w wr B0 s g bs pos v11 v12 out qs segs) (hvs:(vs=v12)\/(segs.length=0/\vs=.slice none 0 0)) (hb:Below wr.heap.size wr w') (hr:B0<=r) (hmd:md=if fc then 3 else 1)
  (hk:Blk w' r 194 #[.slice (some ⟨g,0,none⟩) n c,.int .i64 (8*(n:Int)),.string (strOfNums out),vs,.string (lvName l),.int .i64 0,.int .i64 0,.nilIface,.int .i64 par,.int .i64 sq,.int .i64 md]) :
  ParseDone w g n c l R (.returned (.tuple #[.pointer (some ⟨r,0,none⟩),.nilIface])) w':=by
 subst h hB hmd
 have hM':=hM.under hb
 refine⟨r,vs,v11,qs,rfl,hr,hk,?_,hM'.bel⟩
 rcases hvs with rfl | ⟨h0,rfl⟩
 ·exact hM'.segs
 ·obtain⟨h1,h2,h3⟩:=hM'.segs
  refine⟨h1,⟨by rw [segCells_len _ _ h1,Nat.mul_one],.inl ⟨rfl,h0⟩⟩,h3⟩
theorem four_:(4:Int)=((4:Nat):Int):=rfl
theorem cast1_:(1:Int)=((1:Nat):Int):=rfl
theorem cast2_:(2:Int)=((2:Nat):Int):=rfl
theorem cast4_:(4:Int)=((4:Nat):Int):=rfl
theorem eight_:(8:Int)=((8:Nat):Int):=rfl
theorem VB_ {w wr:World}{B0:Nat}(h:Below B0 w wr)(hB:B0=w.heap.size:=by assumption):Below w.heap.size w wr:=hB ▸ h
set_option maxHeartbeats 8000000 in
set_option maxRecDepth 100000 in
theorem parseWalk (w:World)(g n c pv l v:Nat)(bs:List Nat)(hint:Value)(R:Option PS)(hU:RBlk w g bs)(hcp:capAt w g=c)(hn:bs.length=n)(hV:VerAt w pv (v:Int) (verRow v))(hv:1<=v/\v<=40)(hl4:l<4)(hx:AllLt 8 bs)(hl:bs.length<=100000)
  (hR:Rd bs v ⟨0,[],[],false,-1,-1⟩ R) :
  Calls Tryz.prog 61 #[.slice (some ⟨g,0,none⟩) n c,.pointer (some ⟨pv,0,none⟩),.int .i64 (l:Int),hint] w (ParseDone w g n c l R):=by
 obtain⟨B0,hB0⟩:∃ B0,B0=w.heap.size:=⟨_,rfl⟩
 obtain⟨wa,hwa⟩:∃ wa,wa=w.alloc (.cells #[.slice (some ⟨g,0,none⟩) n c,.int .i64 0,.int .i64 0] 226):=⟨_,rfl⟩
 have kn:Calls Tryz.prog 105 #[.slice (some ⟨g,0,none⟩) n c] w fun e w'=>e=.returned (.pointer (some ⟨B0,0,none⟩))/\wa=w':=by
  refine (newSrc w g n c).mono ?_
  rintro e w' ⟨rfl,rfl⟩
  exact⟨by rw [hB0],hwa⟩
 have hzs:wa.heap.size=B0+1:=by rw [hwa,hB0];simp
 obtain⟨i5,hi5,hz5,hs5,hb5⟩:=info_parts F.info5
 obtain⟨wb,hmb,hob,hgb⟩:=run_makeSlice_owned (P:=Tryz.prog) (w:=wa) B0 26 5 i5 (.int .u8 0) 1 Tryz.underlying26 hi5 hz5 hs5 .i64 .i64 50 (by omega) (by rw [hb5];omega) (by simp [maxLen]) (by omega)
 obtain⟨i6,hi6,hz6,hs6,hb6⟩:=info_parts info26s
 have hbz:=hgb.size
 obtain⟨wc,hmc,hoc,hgc⟩:=run_makeSlice_owned (P:=Tryz.prog) (w:=wb) B0 27 26 i6 (.slice none 0 0) 1 Tryz.underlying27 hi6 hz6 hs6 .i64 .i64 1 (by omega) (by rw [hb6];omega) (by simp [maxLen]) (by omega)
 have hM0:PMem w wc B0 B0 g bs 0 (.slice (some ⟨wa.heap.size,0,none⟩) 0 50) (.slice (some ⟨wb.heap.size,0,none⟩) 0 1) [] [] []:=by
  have h1:Blk wa B0 226 #[.slice (some ⟨g,0,none⟩) bs.length (capAt wa g),.int .i64 ((0/8:Nat):Int),.int .i64 ((0%8:Nat):Int)]:=by rw [hwa,capAt_eq (Below.heap_alloc w _ g hU.lt),hcp,hB0,hn];exact Blk.new _ _ _
  have h2:RBlk wa g bs:=by rw [hwa];exact hU.move (Below.heap_alloc w _ g hU.lt)
  have mv:∀ k,k<wa.heap.size->wc.heap[k]? = wa.heap[k]?:=fun k hk=>(hgc.block k (by omega) (by simp)).trans (hgb.block k hk (by simp))
  refine⟨?_,⟨rfl,hoc,fun i hi=>absurd hi (Nat.not_lt_zero _)⟩,⟨by rw [capAt_eq (mv _ h2.lt)];exact (mv _ h1.lt).trans h1,h2.move (mv _ h2.lt)⟩,?_,?_⟩
  ·exact own_move hob fun k hk=>by
    obtain⟨cs,hc⟩:=own_blk hob k hk
    exact hgc.block k hc.lt (by simp)
  ·have hwb:Below B0 w wa:=by rw [hwa,hB0];exact below_alloc (Below.refl _ _) _
   exact⟨hgc.os.trans (hgb.os.trans hwb.os),hgc.tape.trans (hgb.tape.trans hwb.tape),hgc.output.trans (hgb.output.trans hwb.output),Nat.le_trans hwb.size (Nat.le_trans hgb.size hgc.size),fun k hk=>(mv k (by omega)).trans (hwb.block k hk)⟩
  ·have:=hgc.size;omega
 have hgB:g<B0:=by rw [hB0];exact hU.lt
 have HM:=Aside0.mk hM0
 have HR:=Aside0.mk hR
 have HF:=Aside0.mk (show (⟨0,[],[],false,-1,-1⟩:PS).Fits bs.length from ⟨Nat.zero_le _,Nat.le_refl _,Nat.le_refl _⟩)
 have HX:=Aside0.mk hx
 have HLN:=Aside0.mk hl
 have HV:=Aside0.mk hV
 have HVV:=Aside0.mk hv
 have HNN:=Aside0.mk hn
 have HB0:=Aside0.mk hB0
 have HSB:=Aside0.mk (Nat.le_refl B0)
 obtain⟨va,hva⟩:∃ va,va=(Value.slice (some ⟨wa.heap.size,0,none⟩) 0 50):=⟨_,rfl⟩
 obtain⟨vb,hvb⟩:∃ vb,vb=(Value.slice (some ⟨wb.heap.size,0,none⟩) 0 1):=⟨_,rfl⟩
 rw [<- hva,<- hvb] at HM
 rw [<- hva,show ((50:Nat):Int)=50 from rfl] at hmb
 rw [<- hvb,show ((1:Nat):Int)=1 from rfl] at hmc
 clear hU hcp hn hV hv hx hl hR hB0 hwa hzs hi5 hz5 hs5 hb5 hob hgb hi6 hz6 hs6 hb6 hbz hoc hgc hM0 hva hvb
 go_enter Tryz.func61,Tryz.ntmps61
 go_wp2_with (go_at_call 105;refine kn.mono ?_;rintro e w' ⟨rfl,rfl⟩)
 clear hmb hmc kn
 go_loopw [11,12,13,14,16,17,18,19] (fun v11 v12 v13 v14 v16 v17 v18 v19 wr=>∃ (pos:Nat) (out:List Int) (segs:List (List Int)) (fc:Bool) (sq par:Int) (qs:List Nat),v13=.int .i64 sq/\v14=.int .i64 par/\v16=.pointer none/\v17=.bool fc/\v18=.bool fc/\v19=.bool false/\Aside0 (PMem w wr B0 B0 g bs pos v11 v12 out qs segs)/\Aside0 (Rd bs v ⟨pos,out,segs,fc,sq,par⟩ R)/\Aside0 ((⟨pos,out,segs,fc,sq,par⟩:PS).Fits bs.length)) (fun _ _ _ _ _ _ _ _ wr=>8*bs.length-srcPos wr B0)
 case atStart=>exact⟨0,[],[],false,-1,-1,[],rfl,rfl,rfl,rfl,rfl,rfl,HM,HR,HF⟩
 case round=>
  clear HM HR HF
  obtain⟨pos,out,segs,fc,sq,par,qs,rfl,rfl,rfl,rfl,rfl,rfl,HM,HR,HF⟩:=hrel
  have HPOS:=Aside0.mk (srcPos_at HM.out.src)
  have HPB:=Aside0.mk (show pos<=8*bs.length from HF.out.pos)
  have HOL:=Aside0.mk (show out.length<=1000000 by have h1:=HF.out.out;have h2:=HF.out.pos;have:=HLN.out;dsimp only at h1 h2;omega)
  have HSL:=Aside0.mk (show segs.length<=1000000 by have h1:=HF.out.segs;have h2:=HF.out.pos;have:=HLN.out;dsimp only at h1 h2;omega)
  obtain⟨r,hr⟩:∃ r,8*bs.length-pos=r:=⟨_,rfl⟩
  have H:=Rd.inv HR.out HF.out
  dsimp only at H
  clear HR HF
  rcases H with⟨h1,hRe⟩ | ⟨h1,h2,hRe⟩ | ⟨h1,h2,st',rfl,hR',hF'⟩ | ⟨h1,h2,st',rfl,hR',hF'⟩ | ⟨m,h1,h2,hm,h3,hRe⟩ | ⟨h1,h2,ys,p,h3,st',rfl,hR',hF',hlt⟩ | ⟨h1,h2,h3,hRe⟩ | ⟨h1,h2,ys,p,h3,st',rfl,hR',hF',hlt⟩ | ⟨h1,h2,h3,hRe⟩ | ⟨h1,h2,n2,h3,h4,st',rfl,hR',hF'⟩ | ⟨h1,h2,n2,h3,h4,hRe⟩
  ·have hr4:r<4:=by omega
   have HRE:=Aside0.mk hRe
   have HRQ:=Aside0.mk hr
   clear hr h1 hRe
   obtain⟨Av,cv,hv12⟩:=own_slice HM.out.segs.own
   obtain⟨N,hN⟩:∃ N,segs.length=N:=⟨_,rfl⟩
   rw [hN] at hv12
   subst hv12
   have hNb:N<=1000000:=by have:=HSL.out;omega
   have HNE:=Aside0.mk hN
   have hnb:n<=1000000:=by have:=HNN.out;have:=HLN.out;omega
   clear hN
   cases fc
   all_goals
    by_cases hN0:N=0
    ·subst hN0
     go_wp2_with (first | (go_at_call 106;(with_reducible refine (leftP HM.out HPB.out HLN.out HRQ.out).mono ?_);rintro e w' ⟨rfl,hM'⟩;have nM:=Aside0.mk hM';clear HM hM';have HM:=nM;clear nM))
     have HCV:=Aside0.mk (fun (W:World) (hb:Below w'.heap.size w' W)=>own_string (P:=Tryz.prog) (e':=5) Tryz.underlying26 Tryz.underlying5 Tryz.underlying9 (own_under HM.out.own hb))
     have hb0:Below w'.heap.size w' w':=Below.refl _ _
     have hcv1:=HCV.out _ hb0
     have hcv2:=HCV.out _ (below_drew hb0)
     clear hb0
     go_region_with (first | (go_at_call 118;refine (levelName _ l hl4).mono ?_;rintro e w2 ⟨rfl,rfl⟩) | (go_at_call 117;refine (newRes _ g n c _ _ _ _ _ _ _ _ hnb).mono ?_;rintro e w2 ⟨rfl,rfl⟩))
     all_goals
      clear hcv1 hcv2
      go_wp2
      go_ret2
      exact ParseDone.fine HRE.out HB0.out HM.out (.inr ⟨HNE.out,rfl⟩) (below_alloc (below_drew (Below.refl _ _)) _) HM.out.sz rfl (Blk.new _ _ _)
    ·have hN1:((N:Int)==0)=false:=beq_eq_false_iff_ne.2 (by omega)
     go_wp2_with (first | (go_at_call 106;(with_reducible refine (leftP HM.out HPB.out HLN.out HRQ.out).mono ?_);rintro e w' ⟨rfl,hM'⟩;have nM:=Aside0.mk hM';clear HM hM';have HM:=nM;clear nM))
     have HCV:=Aside0.mk (fun (W:World) (hb:Below w'.heap.size w' W)=>own_string (P:=Tryz.prog) (e':=5) Tryz.underlying26 Tryz.underlying5 Tryz.underlying9 (own_under HM.out.own hb))
     have hb0:Below w'.heap.size w' w':=Below.refl _ _
     have hcv1:=HCV.out _ hb0
     have hcv2:=HCV.out _ (below_drew hb0)
     clear hb0
     go_region_with (first | (go_at_call 118;refine (levelName _ l hl4).mono ?_;rintro e w2 ⟨rfl,rfl⟩) | (go_at_call 117;refine (newRes _ g n c _ _ _ _ _ _ _ _ hnb).mono ?_;rintro e w2 ⟨rfl,rfl⟩))
     all_goals
      clear hcv1 hcv2
      go_wp2
      go_ret2
      exact ParseDone.fine HRE.out HB0.out HM.out (.inl rfl) (below_alloc (below_drew (Below.refl _ _)) _) HM.out.sz rfl (Blk.new _ _ _)
  ·have hr4:4<=r:=by omega
   have HRE:=Aside0.mk hRe
   have HRQ:=Aside0.mk hr
   have HMO:=Aside0.mk h2
   have HP4:=Aside0.mk h1
   clear hr h1 hRe h2
   obtain⟨Av,cv,hv12⟩:=own_slice HM.out.segs.own
   obtain⟨N,hN⟩:∃ N,segs.length=N:=⟨_,rfl⟩
   rw [hN] at hv12
   subst hv12
   have hNb:N<=1000000:=by have:=HSL.out;omega
   have HNE:=Aside0.mk hN
   have hnb:n<=1000000:=by have:=HNN.out;have:=HLN.out;omega
   clear hN
   cases fc
   all_goals
    by_cases hN0:N=0
    ·subst hN0
     go_wp2_with (first | (go_at_call 106;(with_reducible refine (leftP HM.out HPB.out HLN.out HRQ.out).mono ?_);rintro e w' ⟨rfl,hM'⟩;have nM:=Aside0.mk hM';clear HM hM';have HM:=nM;clear nM) | (go_at_call 107;(with_reducible refine (readP (k:=4) HM.out HMO.out four_ HP4.out HLN.out (by decide) (by decide) HX.out HSB.out).mono ?_);rintro e w' ⟨rfl,hM'⟩;have nM:=Aside0.mk hM';clear HM hM';have HM:=nM;clear nM) | (go_at_call 108;refine (modeL _ _ (by decide)).mono ?_;rintro e w2 ⟨rfl,rfl⟩))
     have HCV:=Aside0.mk (fun (W:World) (hb:Below w'.heap.size w' W)=>own_string (P:=Tryz.prog) (e':=5) Tryz.underlying26 Tryz.underlying5 Tryz.underlying9 (own_under HM.out.own hb))
     have hb0:Below w'.heap.size w' w':=Below.refl _ _
     have hcv1:=HCV.out _ hb0
     have hcv2:=HCV.out _ (below_drew hb0)
     clear hb0
     go_region_with (first | (go_at_call 118;refine (levelName _ l hl4).mono ?_;rintro e w2 ⟨rfl,rfl⟩) | (go_at_call 117;refine (newRes _ g n c _ _ _ _ _ _ _ _ hnb).mono ?_;rintro e w2 ⟨rfl,rfl⟩))
     all_goals
      clear hcv1 hcv2
      go_wp2
      go_ret2
      exact ParseDone.fine HRE.out HB0.out HM.out (.inr ⟨HNE.out,rfl⟩) (below_alloc (below_drew (Below.refl _ _)) _) HM.out.sz rfl (Blk.new _ _ _)
    ·have hN1:((N:Int)==0)=false:=beq_eq_false_iff_ne.2 (by omega)
     go_wp2_with (first | (go_at_call 106;(with_reducible refine (leftP HM.out HPB.out HLN.out HRQ.out).mono ?_);rintro e w' ⟨rfl,hM'⟩;have nM:=Aside0.mk hM';clear HM hM';have HM:=nM;clear nM) | (go_at_call 107;(with_reducible refine (readP (k:=4) HM.out HMO.out four_ HP4.out HLN.out (by decide) (by decide) HX.out HSB.out).mono ?_);rintro e w' ⟨rfl,hM'⟩;have nM:=Aside0.mk hM';clear HM hM';have HM:=nM;clear nM) | (go_at_call 108;refine (modeL _ _ (by decide)).mono ?_;rintro e w2 ⟨rfl,rfl⟩))
     have HCV:=Aside0.mk (fun (W:World) (hb:Below w'.heap.size w' W)=>own_string (P:=Tryz.prog) (e':=5) Tryz.underlying26 Tryz.underlying5 Tryz.underlying9 (own_under HM.out.own hb))
     have hb0:Below w'.heap.size w' w':=Below.refl _ _
     have hcv1:=HCV.out _ hb0
     have hcv2:=HCV.out _ (below_drew hb0)
     clear hb0
     go_region_with (first | (go_at_call 118;refine (levelName _ l hl4).mono ?_;rintro e w2 ⟨rfl,rfl⟩) | (go_at_call 117;refine (newRes _ g n c _ _ _ _ _ _ _ _ hnb).mono ?_;rintro e w2 ⟨rfl,rfl⟩))
     all_goals
      clear hcv1 hcv2
      go_wp2
      go_ret2
      exact ParseDone.fine HRE.out HB0.out HM.out (.inl rfl) (below_alloc (below_drew (Below.refl _ _)) _) HM.out.sz rfl (Blk.new _ _ _)
  ·have hr4:4<=r:=by omega
   have HRQ:=Aside0.mk hr
   have HMO:=Aside0.mk h2
   have HP4:=Aside0.mk h1
   have HR2:=Aside0.mk hR'
   have HF2:=Aside0.mk hF'
   clear hr h1 h2 hR' hF'
   go_wp2_with (first | (go_at_call 106;(with_reducible refine (leftP HM.out HPB.out HLN.out HRQ.out).mono ?_);rintro e w' ⟨rfl,hM'⟩;have nM:=Aside0.mk hM';clear HM hM';have HM:=nM;clear nM) | (go_at_call 107;(with_reducible refine (readP (k:=4) HM.out HMO.out four_ HP4.out HLN.out (by decide) (by decide) HX.out HSB.out).mono ?_);rintro e w' ⟨rfl,hM'⟩;have nM:=Aside0.mk hM';clear HM hM';have HM:=nM;clear nM) | (go_at_call 108;refine (modeL _ _ (by decide)).mono ?_;rintro e w2 ⟨rfl,rfl⟩))
   go_roundw
   case rel=>exact⟨_,_,_,_,_,_,qs,rfl,rfl,rfl,rfl,rfl,rfl,HM,HR2,HF2⟩
   case measure=>rw [srcPos_at HM.out.src,HPOS.out];have:=HP4.out;omega
  ·have hr4:4<=r:=by omega
   have HRQ:=Aside0.mk hr
   have HMO:=Aside0.mk h2
   have HP4:=Aside0.mk (show pos+4<=8*bs.length by omega)
   obtain⟨n1,hn1⟩:∃ n1,rdBits bs (pos+4) 8=n1:=⟨_,rfl⟩
   obtain⟨n2,hn2⟩:∃ n2,rdBits bs (pos+12) 8=n2:=⟨_,rfl⟩
   rw [hn1,hn2] at hR' hF'
   have HN1:=Aside0.mk hn1
   have HN2:=Aside0.mk (show rdBits bs (pos+4+8) 8=n2 by rw [Nat.add_assoc];exact hn2)
   have HPC1:=Aside0.mk (show pos+4+8<=8*bs.length by omega)
   have HPC2:=Aside0.mk (show pos+4+8+8<=8*bs.length by omega)
   have HR2:=Aside0.mk (show Rd bs v ⟨pos+4+8+8,out,segs,fc,n1,n2⟩ R by rw [show pos+4+8+8=pos+20 by omega];exact hR')
   have HF2:=Aside0.mk (show (⟨pos+4+8+8,out,segs,fc,n1,n2⟩:PS).Fits bs.length by rw [show pos+4+8+8=pos+20 by omega];exact hF')
   clear hr h1 h2 hR' hF' hn1 hn2
   go_wp2_with (first | (go_at_call 106;(with_reducible refine (leftP HM.out HPB.out HLN.out HRQ.out).mono ?_);rintro e w' ⟨rfl,hM'⟩;have nM:=Aside0.mk hM';clear HM hM';have HM:=nM;clear nM) | (go_at_call 107;(with_reducible refine (readP (k:=4) HM.out HMO.out four_ HP4.out HLN.out (by decide) (by decide) HX.out HSB.out).mono ?_);rintro e w' ⟨rfl,hM'⟩;have nM:=Aside0.mk hM';clear HM hM';have HM:=nM;clear nM) | (go_at_call 108;refine (modeL _ _ (by decide)).mono ?_;rintro e w2 ⟨rfl,rfl⟩) | (go_at_call 107;(with_reducible refine (readP (k:=8) HM.out HN1.out eight_ HPC1.out HLN.out (by decide) (by decide) HX.out HSB.out).mono ?_);rintro e w' ⟨rfl,hM'⟩;have nM:=Aside0.mk hM';clear HM hM';have HM:=nM;clear nM) | (go_at_call 107;(with_reducible refine (readP (k:=8) HM.out HN2.out eight_ HPC2.out HLN.out (by decide) (by decide) HX.out HSB.out).mono ?_);rintro e w' ⟨rfl,hM'⟩;have nM:=Aside0.mk hM';clear HM hM';have HM:=nM;clear nM))
   go_roundw
   case rel=>exact⟨_,_,_,_,_,_,qs,rfl,rfl,rfl,rfl,rfl,rfl,HM,HR2,HF2⟩
   case measure=>rw [srcPos_at HM.out.src,HPOS.out];have:=HPC2.out;omega
  ·have hr4:4<=r:=by omega
   have HRQ:=Aside0.mk hr
   have HMO:=Aside0.mk h2
   have HP4:=Aside0.mk h1
   have HPC4:=Aside0.mk h1
   have HPC:=Aside0.mk h3
   have HRE:=Aside0.mk hRe
   clear hr h1 h2 h3 hRe
   rcases hm with rfl | rfl | rfl
   ·go_wp2_with (first | (go_at_call 106;(with_reducible refine (leftP HM.out HPB.out HLN.out HRQ.out).mono ?_);rintro e w' ⟨rfl,hM'⟩;have nM:=Aside0.mk hM';clear HM hM';have HM:=nM;clear nM) | (go_at_call 107;(with_reducible refine (readP (k:=4) HM.out HMO.out four_ HP4.out HLN.out (by decide) (by decide) HX.out HSB.out).mono ?_);rintro e w' ⟨rfl,hM'⟩;have nM:=Aside0.mk hM';clear HM hM';have HM:=nM;clear nM) | (go_at_call 108;refine (modeL _ _ (by decide)).mono ?_;rintro e w2 ⟨rfl,rfl⟩) | (go_at_call 111;(with_reducible refine (cntP (m:=1) HM.out HV.out (VB_ HM.out.bel HB0.out) HVV.out (by decide) cast1_).mono ?_);rintro e w' ⟨rfl,hM'⟩;have nM:=Aside0.mk hM';clear HM hM';have HM:=nM;clear nM) | (go_at_call 107;(with_reducible refine (readP_bad HM.out HPC4.out HPC.out HLN.out (cntBits_le _ _).1 (Nat.le_trans (cntBits_le _ _).2 (by decide))).mono ?_);rintro e w' ⟨⟨x0,rfl⟩,hB',hZ'⟩;have nB:=Aside0.mk hB';have nZ:=Aside0.mk hZ';clear HM hB' hZ') | (go_at_call 87;refine (wrapP nB.out nZ.out).mono ?_;rintro e w' ⟨⟨y0,rfl⟩,hB'⟩;have nB2:=Aside0.mk hB';clear hB'))
    go_ret2
    exact ParseDone.bad HRE.out (VB_ nB2.out HB0.out)
   ·go_wp2_with (first | (go_at_call 106;(with_reducible refine (leftP HM.out HPB.out HLN.out HRQ.out).mono ?_);rintro e w' ⟨rfl,hM'⟩;have nM:=Aside0.mk hM';clear HM hM';have HM:=nM;clear nM) | (go_at_call 107;(with_reducible refine (readP (k:=4) HM.out HMO.out four_ HP4.out HLN.out (by decide) (by decide) HX.out HSB.out).mono ?_);rintro e w' ⟨rfl,hM'⟩;have nM:=Aside0.mk hM';clear HM hM';have HM:=nM;clear nM) | (go_at_call 108;refine (modeL _ _ (by decide)).mono ?_;rintro e w2 ⟨rfl,rfl⟩) | (go_at_call 111;(with_reducible refine (cntP (m:=2) HM.out HV.out (VB_ HM.out.bel HB0.out) HVV.out (by decide) cast2_).mono ?_);rintro e w' ⟨rfl,hM'⟩;have nM:=Aside0.mk hM';clear HM hM';have HM:=nM;clear nM) | (go_at_call 107;(with_reducible refine (readP_bad HM.out HPC4.out HPC.out HLN.out (cntBits_le _ _).1 (Nat.le_trans (cntBits_le _ _).2 (by decide))).mono ?_);rintro e w' ⟨⟨x0,rfl⟩,hB',hZ'⟩;have nB:=Aside0.mk hB';have nZ:=Aside0.mk hZ';clear HM hB' hZ') | (go_at_call 87;refine (wrapP nB.out nZ.out).mono ?_;rintro e w' ⟨⟨y0,rfl⟩,hB'⟩;have nB2:=Aside0.mk hB';clear hB'))
    go_ret2
    exact ParseDone.bad HRE.out (VB_ nB2.out HB0.out)
   ·go_wp2_with (first | (go_at_call 106;(with_reducible refine (leftP HM.out HPB.out HLN.out HRQ.out).mono ?_);rintro e w' ⟨rfl,hM'⟩;have nM:=Aside0.mk hM';clear HM hM';have HM:=nM;clear nM) | (go_at_call 107;(with_reducible refine (readP (k:=4) HM.out HMO.out four_ HP4.out HLN.out (by decide) (by decide) HX.out HSB.out).mono ?_);rintro e w' ⟨rfl,hM'⟩;have nM:=Aside0.mk hM';clear HM hM';have HM:=nM;clear nM) | (go_at_call 108;refine (modeL _ _ (by decide)).mono ?_;rintro e w2 ⟨rfl,rfl⟩) | (go_at_call 111;(with_reducible refine (cntP (m:=4) HM.out HV.out (VB_ HM.out.bel HB0.out) HVV.out (by decide) cast4_).mono ?_);rintro e w' ⟨rfl,hM'⟩;have nM:=Aside0.mk hM';clear HM hM';have HM:=nM;clear nM) | (go_at_call 107;(with_reducible refine (readP_bad HM.out HPC4.out HPC.out HLN.out (cntBits_le _ _).1 (Nat.le_trans (cntBits_le _ _).2 (by decide))).mono ?_);rintro e w' ⟨⟨x0,rfl⟩,hB',hZ'⟩;have nB:=Aside0.mk hB';have nZ:=Aside0.mk hZ';clear HM hB' hZ') | (go_at_call 87;refine (wrapP nB.out nZ.out).mono ?_;rintro e w' ⟨⟨y0,rfl⟩,hB'⟩;have nB2:=Aside0.mk hB';clear hB'))
    go_ret2
    exact ParseDone.bad HRE.out (VB_ nB2.out HB0.out)
  ·have hr4:4<=r:=by have:=cntBits_le 1 v;omega
   have HRQ:=Aside0.mk hr
   have HMO:=Aside0.mk h1
   have HP4:=Aside0.mk (show pos+4<=8*bs.length by omega)
   have HPC:=Aside0.mk h2
   obtain⟨cn,hcn⟩:∃ cn,rdBits bs (pos+4) (cntBits 1 v)=cn:=⟨_,rfl⟩
   try rw [hcn] at h3
   try rw [hcn] at h4
   try rw [hcn] at hR' hF'
   have hc5:cn<=100000:=by rw [<- hcn];exact Nat.le_of_lt (Nat.lt_of_lt_of_le (rdBits_lt _ _ _) (Nat.le_trans (Nat.pow_le_pow_right (by decide) (cntBits_le 1 v).2) (by decide)))
   have HCN:=Aside0.mk hcn
   have HC5:=Aside0.mk hc5
   clear hr h1 h2 hcn hc5
   have HN:=Aside0.mk h3
   have HR2:=Aside0.mk hR'
   have HF2:=Aside0.mk hF'
   have HLT:=Aside0.mk hlt
   clear h3 hR' hF' hlt
   go_wp2_with (first | (go_at_call 106;(with_reducible refine (leftP HM.out HPB.out HLN.out HRQ.out).mono ?_);rintro e w' ⟨rfl,hM'⟩;have nM:=Aside0.mk hM';clear HM hM';have HM:=nM;clear nM) | (go_at_call 107;(with_reducible refine (readP (k:=4) HM.out HMO.out four_ HP4.out HLN.out (by decide) (by decide) HX.out HSB.out).mono ?_);rintro e w' ⟨rfl,hM'⟩;have nM:=Aside0.mk hM';clear HM hM';have HM:=nM;clear nM) | (go_at_call 108;refine (modeL _ _ (by decide)).mono ?_;rintro e w2 ⟨rfl,rfl⟩) | (go_at_call 111;(with_reducible refine (cntP (m:=1) HM.out HV.out (VB_ HM.out.bel HB0.out) HVV.out (by decide) cast1_).mono ?_);rintro e w' ⟨rfl,hM'⟩;have nM:=Aside0.mk hM';clear HM hM';have HM:=nM;clear nM) | (go_at_call 107;(with_reducible refine (readP HM.out HCN.out rfl HPC.out HLN.out (cntBits_le _ _).1 (Nat.le_trans (cntBits_le _ _).2 (by decide)) HX.out HSB.out).mono ?_);rintro e w' ⟨rfl,hM'⟩;have nM:=Aside0.mk hM';clear HM hM';have HM:=nM;clear nM) | (go_at_call 113;(with_reducible refine (numP HM.out HN.out hgB HSB.out HX.out HLN.out HC5.out HOL.out HPC.out).mono ?_);rintro e w' ⟨v',rfl,hM'⟩;have nM:=Aside0.mk hM';clear HM hM';have HM:=nM;clear nM))
   go_roundw
   case rel=>exact⟨_,_,_,_,_,_,qs,rfl,rfl,rfl,rfl,rfl,rfl,HM,HR2,HF2⟩
   case measure=>rw [srcPos_at HM.out.src,HPOS.out];have:=HLT.out;have:=HF2.out.pos;dsimp only at this;omega
  ·have hr4:4<=r:=by have:=cntBits_le 1 v;omega
   have HRQ:=Aside0.mk hr
   have HMO:=Aside0.mk h1
   have HP4:=Aside0.mk (show pos+4<=8*bs.length by omega)
   have HPC:=Aside0.mk h2
   obtain⟨cn,hcn⟩:∃ cn,rdBits bs (pos+4) (cntBits 1 v)=cn:=⟨_,rfl⟩
   try rw [hcn] at h3
   try rw [hcn] at h4
   try rw [hcn] at hR' hF'
   have hc5:cn<=100000:=by rw [<- hcn];exact Nat.le_of_lt (Nat.lt_of_lt_of_le (rdBits_lt _ _ _) (Nat.le_trans (Nat.pow_le_pow_right (by decide) (cntBits_le 1 v).2) (by decide)))
   have HCN:=Aside0.mk hcn
   have HC5:=Aside0.mk hc5
   clear hr h1 h2 hcn hc5
   have HN:=Aside0.mk h3
   have HRE:=Aside0.mk hRe
   clear h3 hRe
   go_wp2_with (first | (go_at_call 106;(with_reducible refine (leftP HM.out HPB.out HLN.out HRQ.out).mono ?_);rintro e w' ⟨rfl,hM'⟩;have nM:=Aside0.mk hM';clear HM hM';have HM:=nM;clear nM) | (go_at_call 107;(with_reducible refine (readP (k:=4) HM.out HMO.out four_ HP4.out HLN.out (by decide) (by decide) HX.out HSB.out).mono ?_);rintro e w' ⟨rfl,hM'⟩;have nM:=Aside0.mk hM';clear HM hM';have HM:=nM;clear nM) | (go_at_call 108;refine (modeL _ _ (by decide)).mono ?_;rintro e w2 ⟨rfl,rfl⟩) | (go_at_call 111;(with_reducible refine (cntP (m:=1) HM.out HV.out (VB_ HM.out.bel HB0.out) HVV.out (by decide) cast1_).mono ?_);rintro e w' ⟨rfl,hM'⟩;have nM:=Aside0.mk hM';clear HM hM';have HM:=nM;clear nM) | (go_at_call 107;(with_reducible refine (readP HM.out HCN.out rfl HPC.out HLN.out (cntBits_le _ _).1 (Nat.le_trans (cntBits_le _ _).2 (by decide)) HX.out HSB.out).mono ?_);rintro e w' ⟨rfl,hM'⟩;have nM:=Aside0.mk hM';clear HM hM';have HM:=nM;clear nM) | (go_at_call 113;(with_reducible refine (numP_bad HM.out HN.out hgB HSB.out HX.out HLN.out HC5.out HOL.out HPC.out).mono ?_);rintro e w' ⟨v',x0,rfl,hB'⟩;have nB2:=Aside0.mk hB';clear HM hB'))
   go_ret2
   exact ParseDone.bad HRE.out (VB_ nB2.out HB0.out)
  ·have hr4:4<=r:=by have:=cntBits_le 2 v;omega
   have HRQ:=Aside0.mk hr
   have HMO:=Aside0.mk h1
   have HP4:=Aside0.mk (show pos+4<=8*bs.length by omega)
   have HPC:=Aside0.mk h2
   obtain⟨cn,hcn⟩:∃ cn,rdBits bs (pos+4) (cntBits 2 v)=cn:=⟨_,rfl⟩
   try rw [hcn] at h3
   try rw [hcn] at h4
   try rw [hcn] at hR' hF'
   have hc5:cn<=100000:=by rw [<- hcn];exact Nat.le_of_lt (Nat.lt_of_lt_of_le (rdBits_lt _ _ _) (Nat.le_trans (Nat.pow_le_pow_right (by decide) (cntBits_le 2 v).2) (by decide)))
   have HCN:=Aside0.mk hcn
   have HC5:=Aside0.mk hc5
   clear hr h1 h2 hcn hc5
   have HN:=Aside0.mk h3
   have HR2:=Aside0.mk hR'
   have HF2:=Aside0.mk hF'
   have HLT:=Aside0.mk hlt
   clear h3 hR' hF' hlt
   go_wp2_with (first | (go_at_call 106;(with_reducible refine (leftP HM.out HPB.out HLN.out HRQ.out).mono ?_);rintro e w' ⟨rfl,hM'⟩;have nM:=Aside0.mk hM';clear HM hM';have HM:=nM;clear nM) | (go_at_call 107;(with_reducible refine (readP (k:=4) HM.out HMO.out four_ HP4.out HLN.out (by decide) (by decide) HX.out HSB.out).mono ?_);rintro e w' ⟨rfl,hM'⟩;have nM:=Aside0.mk hM';clear HM hM';have HM:=nM;clear nM) | (go_at_call 108;refine (modeL _ _ (by decide)).mono ?_;rintro e w2 ⟨rfl,rfl⟩) | (go_at_call 111;(with_reducible refine (cntP (m:=2) HM.out HV.out (VB_ HM.out.bel HB0.out) HVV.out (by decide) cast2_).mono ?_);rintro e w' ⟨rfl,hM'⟩;have nM:=Aside0.mk hM';clear HM hM';have HM:=nM;clear nM) | (go_at_call 107;(with_reducible refine (readP HM.out HCN.out rfl HPC.out HLN.out (cntBits_le _ _).1 (Nat.le_trans (cntBits_le _ _).2 (by decide)) HX.out HSB.out).mono ?_);rintro e w' ⟨rfl,hM'⟩;have nM:=Aside0.mk hM';clear HM hM';have HM:=nM;clear nM) | (go_at_call 114;(with_reducible refine (alP fc HM.out HN.out rfl hgB HSB.out HX.out HLN.out HC5.out HOL.out HPC.out).mono ?_);rintro e w' ⟨v',rfl,hM'⟩;have nM:=Aside0.mk hM';clear HM hM';have HM:=nM;clear nM))
   go_roundw
   case rel=>exact⟨_,_,_,_,_,_,qs,rfl,rfl,rfl,rfl,rfl,rfl,HM,HR2,HF2⟩
   case measure=>rw [srcPos_at HM.out.src,HPOS.out];have:=HLT.out;have:=HF2.out.pos;dsimp only at this;omega
  ·have hr4:4<=r:=by have:=cntBits_le 2 v;omega
   have HRQ:=Aside0.mk hr
   have HMO:=Aside0.mk h1
   have HP4:=Aside0.mk (show pos+4<=8*bs.length by omega)
   have HPC:=Aside0.mk h2
   obtain⟨cn,hcn⟩:∃ cn,rdBits bs (pos+4) (cntBits 2 v)=cn:=⟨_,rfl⟩
   try rw [hcn] at h3
   try rw [hcn] at h4
   try rw [hcn] at hR' hF'
   have hc5:cn<=100000:=by rw [<- hcn];exact Nat.le_of_lt (Nat.lt_of_lt_of_le (rdBits_lt _ _ _) (Nat.le_trans (Nat.pow_le_pow_right (by decide) (cntBits_le 2 v).2) (by decide)))
   have HCN:=Aside0.mk hcn
   have HC5:=Aside0.mk hc5
   clear hr h1 h2 hcn hc5
   have HN:=Aside0.mk h3
   have HRE:=Aside0.mk hRe
   clear h3 hRe
   go_wp2_with (first | (go_at_call 106;(with_reducible refine (leftP HM.out HPB.out HLN.out HRQ.out).mono ?_);rintro e w' ⟨rfl,hM'⟩;have nM:=Aside0.mk hM';clear HM hM';have HM:=nM;clear nM) | (go_at_call 107;(with_reducible refine (readP (k:=4) HM.out HMO.out four_ HP4.out HLN.out (by decide) (by decide) HX.out HSB.out).mono ?_);rintro e w' ⟨rfl,hM'⟩;have nM:=Aside0.mk hM';clear HM hM';have HM:=nM;clear nM) | (go_at_call 108;refine (modeL _ _ (by decide)).mono ?_;rintro e w2 ⟨rfl,rfl⟩) | (go_at_call 111;(with_reducible refine (cntP (m:=2) HM.out HV.out (VB_ HM.out.bel HB0.out) HVV.out (by decide) cast2_).mono ?_);rintro e w' ⟨rfl,hM'⟩;have nM:=Aside0.mk hM';clear HM hM';have HM:=nM;clear nM) | (go_at_call 107;(with_reducible refine (readP HM.out HCN.out rfl HPC.out HLN.out (cntBits_le _ _).1 (Nat.le_trans (cntBits_le _ _).2 (by decide)) HX.out HSB.out).mono ?_);rintro e w' ⟨rfl,hM'⟩;have nM:=Aside0.mk hM';clear HM hM';have HM:=nM;clear nM) | (go_at_call 114;(with_reducible refine (alP_bad fc HM.out HN.out hgB HSB.out HX.out HLN.out HC5.out HOL.out HPC.out).mono ?_);rintro e w' ⟨v',x0,rfl,hB'⟩;have nB2:=Aside0.mk hB';clear HM hB'))
   go_ret2
   exact ParseDone.bad HRE.out (VB_ nB2.out HB0.out)
  ·subst h3
   have hr4:4<=r:=by have:=cntBits_le 4 v;omega
   have HRQ:=Aside0.mk hr
   have HMO:=Aside0.mk h1
   have HP4:=Aside0.mk (show pos+4<=8*bs.length by omega)
   have HPC:=Aside0.mk h2
   obtain⟨cn,hcn⟩:∃ cn,rdBits bs (pos+4) (cntBits 4 v)=cn:=⟨_,rfl⟩
   try rw [hcn] at h3
   try rw [hcn] at h4
   try rw [hcn] at hR' hF'
   have hc5:cn<=100000:=by rw [<- hcn];exact Nat.le_of_lt (Nat.lt_of_lt_of_le (rdBits_lt _ _ _) (Nat.le_trans (Nat.pow_le_pow_right (by decide) (cntBits_le 4 v).2) (by decide)))
   have HCN:=Aside0.mk hcn
   have HC5:=Aside0.mk hc5
   clear hr h1 h2 hcn hc5
   have HPE:=Aside0.mk h4
   have HR2:=Aside0.mk hR'
   have HF2:=Aside0.mk hF'
   clear h4 hR' hF'
   go_wp2_with (first | (go_at_call 106;(with_reducible refine (leftP HM.out HPB.out HLN.out HRQ.out).mono ?_);rintro e w' ⟨rfl,hM'⟩;have nM:=Aside0.mk hM';clear HM hM';have HM:=nM;clear nM) | (go_at_call 107;(with_reducible refine (readP (k:=4) HM.out HMO.out four_ HP4.out HLN.out (by decide) (by decide) HX.out HSB.out).mono ?_);rintro e w' ⟨rfl,hM'⟩;have nM:=Aside0.mk hM';clear HM hM';have HM:=nM;clear nM) | (go_at_call 108;refine (modeL _ _ (by decide)).mono ?_;rintro e w2 ⟨rfl,rfl⟩) | (go_at_call 111;(with_reducible refine (cntP (m:=4) HM.out HV.out (VB_ HM.out.bel HB0.out) HVV.out (by decide) cast4_).mono ?_);rintro e w' ⟨rfl,hM'⟩;have nM:=Aside0.mk hM';clear HM hM';have HM:=nM;clear nM) | (go_at_call 107;(with_reducible refine (readP HM.out HCN.out rfl HPC.out HLN.out (cntBits_le _ _).1 (Nat.le_trans (cntBits_le _ _).2 (by decide)) HX.out HSB.out).mono ?_);rintro e w' ⟨rfl,hM'⟩;have nM:=Aside0.mk hM';clear HM hM';have HM:=nM;clear nM) | (go_at_call 115;(with_reducible refine (byteP HM.out hgB HSB.out HX.out HLN.out HC5.out HOL.out HSL.out HPE.out).mono ?_);rintro e w' ⟨v',vs',qs2,rfl,hM'⟩;have nM:=Aside0.mk hM';clear HM hM';have HM:=nM;clear nM))
   go_roundw
   case rel=>exact⟨_,_,_,_,_,_,qs2,rfl,rfl,rfl,rfl,rfl,rfl,HM,HR2,HF2⟩
   case measure=>rw [srcPos_at HM.out.src,HPOS.out];have:=HF2.out.pos;dsimp only at this;omega
  ·subst h3
   have hr4:4<=r:=by have:=cntBits_le 4 v;omega
   have HRQ:=Aside0.mk hr
   have HMO:=Aside0.mk h1
   have HP4:=Aside0.mk (show pos+4<=8*bs.length by omega)
   have HPC:=Aside0.mk h2
   obtain⟨cn,hcn⟩:∃ cn,rdBits bs (pos+4) (cntBits 4 v)=cn:=⟨_,rfl⟩
   try rw [hcn] at h3
   try rw [hcn] at h4
   try rw [hcn] at hR' hF'
   have hc5:cn<=100000:=by rw [<- hcn];exact Nat.le_of_lt (Nat.lt_of_lt_of_le (rdBits_lt _ _ _) (Nat.le_trans (Nat.pow_le_pow_right (by decide) (cntBits_le 4 v).2) (by decide)))
   have HCN:=Aside0.mk hcn
   have HC5:=Aside0.mk hc5
   clear hr h1 h2 hcn hc5
   have HPE:=Aside0.mk h4
   have HRE:=Aside0.mk hRe
   clear h4 hRe
   go_wp2_with (first | (go_at_call 106;(with_reducible refine (leftP HM.out HPB.out HLN.out HRQ.out).mono ?_);rintro e w' ⟨rfl,hM'⟩;have nM:=Aside0.mk hM';clear HM hM';have HM:=nM;clear nM) | (go_at_call 107;(with_reducible refine (readP (k:=4) HM.out HMO.out four_ HP4.out HLN.out (by decide) (by decide) HX.out HSB.out).mono ?_);rintro e w' ⟨rfl,hM'⟩;have nM:=Aside0.mk hM';clear HM hM';have HM:=nM;clear nM) | (go_at_call 108;refine (modeL _ _ (by decide)).mono ?_;rintro e w2 ⟨rfl,rfl⟩) | (go_at_call 111;(with_reducible refine (cntP (m:=4) HM.out HV.out (VB_ HM.out.bel HB0.out) HVV.out (by decide) cast4_).mono ?_);rintro e w' ⟨rfl,hM'⟩;have nM:=Aside0.mk hM';clear HM hM';have HM:=nM;clear nM) | (go_at_call 107;(with_reducible refine (readP HM.out HCN.out rfl HPC.out HLN.out (cntBits_le _ _).1 (Nat.le_trans (cntBits_le _ _).2 (by decide)) HX.out HSB.out).mono ?_);rintro e w' ⟨rfl,hM'⟩;have nM:=Aside0.mk hM';clear HM hM';have HM:=nM;clear nM) | (go_at_call 115;(with_reducible refine (byteP_bad HM.out HLN.out HPC.out HPE.out HC5.out).mono ?_);rintro e w' ⟨v',vs',x0,rfl,hB'⟩;have nB2:=Aside0.mk hB';clear HM hB'))
   go_ret2
   exact ParseDone.bad HRE.out (VB_ nB2.out HB0.out)
end Go.Proofs.YtgccjgpdjkhpdaaGreat.B
