import Derived.Test.YtgccjgpdjkhpdaaGreatVQ40
import Derived.Test.YtgccjgpdjkhpdaaGreatVQ44
/-! Own texts of this claim, part 45. -/
namespace Go.Proofs.YtgccjgpdjkhpdaaGreat.B
open Go.RowKit Go.Proofs.YtgccjgpdjkhpdaaGreatW.PrintWords Go.Proofs.YtgccjgpdjkhpdaaGreatW.PrintLast Go.Proofs.YtgccjgpdjkhpdaaGreatW.PrintMore
set_option linter.unusedVariables false
set_option linter.unusedSimpArgs false
set_option maxHeartbeats 4000000 in
set_option maxRecDepth 8000 in
theorem parse25 (w:World)(q v l N cN:Nat)(ws:List Nat)(st:PS)(hD:ByteAt w q 0 ws)(hq:q<w.heap.size)(hn:ws.length=N)(h0:0<N)(hN:N<=10000)(hv:1<=v/\v<=40)(hl:l<4)(hx:AllLt 8 ws)(hR:Rd ws v ⟨0,[],[],false,-1,-1⟩ (some st)) :
  Calls Tryz.prog 25 #[.slice (some ⟨q,0,none⟩) N cN,.int .i64 (v:Int),.int .i64 (l:Int)] w fun e w'=>∃ x,e=.returned (.tuple #[x,.bool true])/\DecIs w' w.heap.size l ws st x/\Below w.heap.size w w':=by
 obtain⟨w0,hw0⟩:∃ w0,w0=w.alloc (.cells #[.string ⟨#[]⟩,.slice none 0 0,.slice none 0 0,.string ⟨#[]⟩,.int .i64 0,.int .i64 0,.int .i64 0,.int .i64 0] 29):=⟨_,rfl⟩
 have HB0:=Aside0.mk (show Below w.heap.size w w0 by rw [hw0];exact below_alloc (Below.refl _ _) _)
 have HD0:=Aside0.mk (show Blk w0 w.heap.size 29 #[.string ⟨#[]⟩,.slice none 0 0,.slice none 0 0,.string ⟨#[]⟩,.int .i64 0,.int .i64 0,.int .i64 0,.int .i64 0] by rw [hw0];exact Blk.new _ _ _)
 have HZ0:=Aside0.mk (show w0.heap.size=w.heap.size+1 by rw [hw0];simp)
 have HW:=Aside0.mk hw0
 have HDB:=Aside0.mk (fun (W:World) (hb:Below w.heap.size w W)=>hD.below hb hq)
 have HN:=Aside0.mk hn
 have HX:=Aside0.mk hx
 have HR:=Aside0.mk hR
 have k60:=Aside0.mk (fun W=>verNum_ok W v hv)
 clear hw0 hD hq hn hx hR
 go_enter Tryz.func25,Tryz.ntmps25
 go_wp2_with fail
 rw [<- HW.out]
 refine (k60.out w0).mono ?_
 rintro e w1 ⟨pv,rfl,hpv,hV,hb1⟩
 have HB1:=Aside0.mk (HB0.out.trans (hb1.mono HB0.out.size))
 have HL1:=Aside0.mk hb1
 have HV1:=Aside0.mk hV
 clear hb1 hV
 have HBY:=Aside0.mk (show ReadsInt w1 .u8 (some ⟨q,0,none⟩) N (ints ws) by
  have h1:=ByteAt.reads (HDB.out w1 HB1.out) (by rw [HN.out];omega)
  rw [HN.out] at h1
  exact h1)
 go_wp2_with ((with_reducible refine gate_builtin (b:=.append) (xs:=#[.const (.slice none 0 0),.tmp 18]) rfl ?_);at_builtin;refine print_append_row (w0:=w1) w1.heap.size rfl (.const (.slice none 0 0)) (.tmp 18) 26 5 .u8 1 rfl Tryz.underlying26 F.info5 (by decide) (.slice none 0 0) [] (ints ws) (some ⟨q,0,none⟩) N cN rfl rfl (own_nil' _ _) HBY.out (Below.refl _ _) (Nat.le_refl _) ?aL ?_;(case aL=>(simp;omega));intro vx wx ho hb hg hat;rw [List.nil_append,ints_len,HN.out] at ho;obtain⟨gx,cx,hvx,hgx,hcx,_,_,_⟩:=own_bytes ho h0;subst hvx;have HOX:=Aside0.mk ho;have HBX:=Aside0.mk hb;clear ho hb hg hat)
 obtain⟨hrb,hcap,_⟩:=own_rblk HOX.out h0
 refine (parseWalk wx gx N cx pv l v ws (.map none) (some st) hrb hcap HN.out (HV1.out.below HBX.out (Nat.le_refl _)) hv hl HX.out (by rw [HN.out];omega) HR.out).mono ?_
 rintro e w2 hd
 obtain⟨r,rfl,_,hres,hb2⟩:=ParseDone.res hd hrb HN.out (by rw [HN.out];omega) HR.out
 have HB2:=Aside0.mk ((HB1.out.trans (HBX.out.mono HB1.out.size)).trans (hb2.mono (Nat.le_trans HB1.out.size HBX.out.size)))
 have HL2:=Aside0.mk ((HL1.out.trans (HBX.out.mono HL1.out.size)).trans (hb2.mono (Nat.le_trans HL1.out.size HBX.out.size)))
 have HR2:=Aside0.mk hres
 clear hd hres hb2 hrb hcap
 go_wp2_with fail
 refine (decodedOK w2 r gx l ws st HR2.out (by rw [HN.out];omega)).mono ?_
 rintro e w3 ⟨x,rfl,⟨Ar,cr,As,cs,rfl,h1,h2⟩,hb3⟩
 have HB3:=Aside0.mk (HB2.out.trans (hb3.mono HB2.out.size))
 have HD3:=Aside0.mk (HD0.out.below (HL2.out.trans (hb3.mono HL2.out.size)) HD0.out.lt)
 have HBB:=Aside0.mk (show w.heap.size<w2.heap.size by have:=HZ0.out;have:=HL2.out.size;omega)
 have HDI:=Aside0.mk (show DecIs w3 w2.heap.size l ws st _ from ⟨Ar,cr,As,cs,rfl,h1,h2⟩)
 obtain⟨t,ht⟩:∃ t,strOfNums st.out=t:=⟨_,rfl⟩
 obtain⟨md,hmd⟩:∃ md:Int,(if st.fc then 3 else 1)=md:=⟨_,rfl⟩
 obtain⟨sq,hsq⟩:∃ sq,st.sq=sq:=⟨_,rfl⟩
 obtain⟨par,hpar⟩:∃ par,st.par=par:=⟨_,rfl⟩
 obtain⟨nm,hnm⟩:∃ nm,lvName l=nm:=⟨_,rfl⟩
 obtain⟨n2,hn2⟩:∃ n2,st.segs.length=n2:=⟨_,rfl⟩
 obtain⟨m,hm⟩:∃ m,ws.length=m:=⟨_,rfl⟩
 rw [ht,hmd,hsq,hpar,hnm,hn2,hm]
 have HT:=Aside0.mk ht
 have HMD:=Aside0.mk hmd
 have HSQ:=Aside0.mk hsq
 have HPAR:=Aside0.mk hpar
 have HNM:=Aside0.mk hnm
 have HN2:=Aside0.mk hn2
 have HM:=Aside0.mk hm
 have d0:=HD3.out.cell 0
 have d1:=HD3.out.cell 1
 have d2:=HD3.out.cell 2
 have d3:=HD3.out.cell 3
 have d4:=HD3.out.cell 4
 have d5:=HD3.out.cell 5
 have d6:=HD3.out.cell 6
 have d7:=HD3.out.cell 7
 have f0:=HD3.out.frozen 0
 have f1:=HD3.out.frozen 1
 have f2:=HD3.out.frozen 2
 have f3:=HD3.out.frozen 3
 have f4:=HD3.out.frozen 4
 have f5:=HD3.out.frozen 5
 have f6:=HD3.out.frozen 6
 have f7:=HD3.out.frozen 7
 clear hb3 h1 h2 ht hmd hsq hpar hnm hn2 hm
 go_wp2
 clear d0 d1 d2 d3 d4 d5 d6 d7 f0 f1 f2 f3 f4 f5 f6 f7
 obtain⟨w4,hw4⟩:∃ w4,w4=(((((((w3.setCell ⟨w.heap.size,0,none⟩ (.string t)).setCell ⟨w.heap.size,1,none⟩ (.slice Ar m cr)).setCell ⟨w.heap.size,2,none⟩ (.slice As n2 cs)).setCell ⟨w.heap.size,3,none⟩ (.string nm)).setCell ⟨w.heap.size,4,none⟩ (.int .i64 0)).setCell ⟨w.heap.size,5,none⟩ (.int .i64 sq)).setCell ⟨w.heap.size,6,none⟩ (.int .i64 par)).setCell ⟨w.heap.size,7,none⟩ (.int .i64 md):=⟨_,rfl⟩
 rw [<- hw4]
 have hT:Turn w3 w4 w.heap.size:=by
  rw [hw4]
  exact (((((((Turn.set _ _ _ _).trans (Turn.set _ _ _ _)).trans (Turn.set _ _ _ _)).trans (Turn.set _ _ _ _)).trans (Turn.set _ _ _ _)).trans (Turn.set _ _ _ _)).trans (Turn.set _ _ _ _)).trans (Turn.set _ _ _ _)
 have hD4:Blk w4 w.heap.size 29 #[.string t,.slice Ar m cr,.slice As n2 cs,.string nm,.int .i64 0,.int .i64 sq,.int .i64 par,.int .i64 md]:=by
  rw [hw4]
  exact blk_set (blk_set (blk_set (blk_set (blk_set (blk_set (blk_set (blk_set HD3.out 0 _) 1 _) 2 _) 3 _) 4 _) 5 _) 6 _) 7 _
 have c0:w4.cell? ⟨w.heap.size,0,none⟩=_:=hD4.cell 0
 have c1:w4.cell? ⟨w.heap.size,1,none⟩=_:=hD4.cell 1
 have c2:w4.cell? ⟨w.heap.size,2,none⟩=_:=hD4.cell 2
 have c3:w4.cell? ⟨w.heap.size,3,none⟩=_:=hD4.cell 3
 have c4:w4.cell? ⟨w.heap.size,4,none⟩=_:=hD4.cell 4
 have c5:w4.cell? ⟨w.heap.size,5,none⟩=_:=hD4.cell 5
 have c6:w4.cell? ⟨w.heap.size,6,none⟩=_:=hD4.cell 6
 have c7:w4.cell? ⟨w.heap.size,7,none⟩=_:=hD4.cell 7
 have hbel:Below w.heap.size w w4:=HB3.out.trans (hT.below (Nat.le_refl _))
 refine bodyPost_ret (v:=.tuple #[.agg #[.string t,.slice Ar m cr,.slice As n2 cs,.string nm,.int .i64 0,.int .i64 sq,.int .i64 par,.int .i64 md],.bool true]) (by simp [results,Tryz.results25,go_sem,c0,c1,c2,c3,c4,c5,c6,c7]) rfl ⟨_,rfl,?_,hbel⟩
 have hd:=(HDI.out.move (w':=w4) fun k hk hlt=>hT.block k (by have:=HBB.out;omega)).lower (Nat.le_of_lt HBB.out)
 rw [HT.out,HMD.out,HSQ.out,HPAR.out,HNM.out,HN2.out,HM.out] at hd
 exact hd
end Go.Proofs.YtgccjgpdjkhpdaaGreat.B
