import Derived.Test.YtgccjgpdjkhpdaaGreatVBack19
/-! Own texts of this claim, part 22. -/
namespace Go.Proofs.YtgccjgpdjkhpdaaGreat.B
open Go.RowKit Go.Proofs.YtgccjgpdjkhpdaaGreatW.PrintWords Go.Proofs.YtgccjgpdjkhpdaaGreatW.PrintLast Go.Proofs.YtgccjgpdjkhpdaaGreatW.PrintMore
set_option linter.unusedVariables false
set_option linter.unusedSimpArgs false
set_option maxHeartbeats 4000000 in
set_option maxRecDepth 8000 in
theorem alWalk (w0 w:World)(base s g pos cnt:Nat)(bs:List Nat)(v:Value)(xs:List Int)(hS:SrcAt w s g bs pos)(hg0:g<base)(hbs:base<=s)(hO:w.ownsRow base 5 1 v xs.length (nums .u8 xs))(hB:Below base w0 w)(hbase:base<=w.heap.size)
  (hx:AllLt 8 bs) (hl:bs.length<=100000) (hcnt:cnt<=100000) (hxl:xs.length<=1000000) (hp:pos<=8*bs.length) :
  Calls Tryz.prog 114 #[.pointer (some ⟨s,0,none⟩),v,.int .i64 (cnt:Int),.bool false] w (SegDone w0 w v base s g bs (alSeg bs pos cnt xs)):=by
 obtain⟨R,hR⟩:∃ R,alSeg bs pos cnt xs=R:=⟨_,rfl⟩
 rw [hR]
 obtain⟨A0,c0,hv⟩:=own_slice hO
 obtain⟨N0,hN0⟩:∃ N0,xs.length=N0:=⟨_,rfl⟩
 rw [hN0] at hv
 subst hv
 have HGW:=Aside0.mk (Grow.refl w s (.slice A0 N0 c0))
 have HS:=Aside0.mk hS
 have HO:=Aside0.mk hO
 have HB:=Aside0.mk hB
 have HX:=Aside0.mk hx
 have HR:=Aside0.mk hR
 have HP:=Aside0.mk hp
 have HLN:=Aside0.mk hl
 have HXL:=Aside0.mk hxl
 clear hS hO hB hx hR hp hl hxl hN0
 go_enter Tryz.func114,Tryz.ntmps114
 go_wp2
 go_loopw [1,2] (fun vr vc wr=>∃ (c p:Nat) (ys:List Int),vc=.int .i64 (c:Int)/\c<=cnt/\Aside0 (wr.ownsRow base 5 1 vr ys.length (nums .u8 ys))/\Aside0 (SrcAt wr s g bs p)/\Aside0 (Below base w0 wr)/\Aside0 (base<=wr.heap.size)/\
  Aside0 (alSeg bs p c ys=R)/\Aside0 (p<=8*bs.length)/\Aside0 (ys.length+c<=1100000)/\Aside0 (Grow w wr s (.slice A0 N0 c0) vr)) (fun _ vc _=>(intOf vc).toNat)
 case atStart=>exact⟨cnt,pos,xs,rfl,Nat.le_refl _,HO,HS,HB,⟨hbase⟩,HR,HP,⟨by have:=HXL.out;omega⟩,HGW⟩
 case round=>
  clear HO HS HB HR HP HGW
  obtain⟨c,p,ys,rfl,hcc,HO,HS,HB,HBS,HR,HP,HLEN,HGW⟩:=hrel
  by_cases h3:2<=c
  ·have hr3:=HR.out
   rw [alSeg,if_pos h3] at hr3
   by_cases hroom:p+11<=8*bs.length
   ·have kr:=readBits wr s g p 11 bs HS.out hroom HLN.out (by decide) (by decide) HX.out
    obtain⟨n,hnn⟩:∃ n,rdBits bs p 11=n:=⟨_,rfl⟩
    rw [hnn] at kr hr3
    have hn24:n<2048:=by rw [<- hnn];exact rdBits_lt _ _ _
    obtain⟨q,hqq⟩:∃ q,n/45=q:=⟨_,rfl⟩
    obtain⟨r,hrr⟩:∃ r,n%45=r:=⟨_,rfl⟩
    have hqi:(n:Int)/45=(q:Int):=by omega
    have hri:(n:Int)%45=(r:Int):=by omega
    have hq100:q<100:=by omega
    have hr:r<45:=by omega
    rw [hqq,hrr] at hr3
    by_cases hq:q<45
    ·rw [if_pos ⟨hroom,hq⟩] at hr3
     have HR3:=Aside0.mk hr3
     have HRM:=Aside0.mk hroom
     clear hr3 hroom hnn hqq hrr
     go_wp2_with (first | (go_at_call 107;refine kr.mono ?_;rintro e w' ⟨rfl,hS',hT'⟩;have nG_:=Aside0.mk (HGW.out.turn hT');have nO_:=Aside0.mk (own_turn HO.out HS.out.1 hT');have nB_:=Aside0.mk (HB.out.trans (hT'.below hbs));have nZ_:=Aside0.mk (show base<=w'.heap.size by rw [hT'.size];exact HBS.out);clear HO HS HB HBS HGW;have HO:=nO_;have HS:=Aside0.mk hS';have HB:=nB_;have HBS:=nZ_;have HGW:=nG_;clear nO_ nB_ nZ_ nG_ hS' hT') | (go_at_call 145;first | (with_reducible refine (alChar _ q hq).mono ?_;rintro e w' ⟨rfl,rfl⟩) | (with_reducible refine (alChar _ r hr).mono ?_;rintro e w' ⟨rfl,rfl⟩)) | ((with_reducible refine gate_builtin (b:=.append) (xs:=#[.tmp 43,.tmp 45]) rfl ?_);at_builtin;refine print_append_num (w0:=w0) base rfl (.tmp 43) (.tmp 45) 26 5 .u8 1 rfl Tryz.underlying26 F.info5 (by decide) _ _ _ rfl rfl HO.out HB.out HBS.out ?aL ?_;(case aL=>(have:=HLEN.out;(try simp only [List.length_append,List.length_cons,List.length_nil]);omega));intro v_ w1 ho hb hg hat;have nG_:=Aside0.mk (HGW.out.app hg hat);have nS_:=Aside0.mk (HS.out.grown (base:=base) HO.out hg0 hg);have nB_:=Aside0.mk (Nat.le_trans HBS.out hg.size);have n0_:=Aside0.mk ho;have n1_:=Aside0.mk hb;clear HO HB HS HBS HGW;have HO:=n0_;have HB:=n1_;have HS:=nS_;have HBS:=nB_;have HGW:=nG_;clear n0_ n1_ nS_ nB_ nG_ ho hb hg hat) | ((with_reducible refine gate_builtin (b:=.append) (xs:=#[.tmp 53,.tmp 55]) rfl ?_);at_builtin;refine print_append_num (w0:=w0) base rfl (.tmp 53) (.tmp 55) 26 5 .u8 1 rfl Tryz.underlying26 F.info5 (by decide) _ _ _ rfl rfl HO.out HB.out HBS.out ?aL ?_;(case aL=>(have:=HLEN.out;(try simp only [List.length_append,List.length_cons,List.length_nil]);omega));intro v_ w1 ho hb hg hat;have nG_:=Aside0.mk (HGW.out.app hg hat);have nS_:=Aside0.mk (HS.out.grown (base:=base) HO.out hg0 hg);have nB_:=Aside0.mk (Nat.le_trans HBS.out hg.size);have n0_:=Aside0.mk ho;have n1_:=Aside0.mk hb;clear HO HB HS HBS HGW;have HO:=n0_;have HB:=n1_;have HS:=nS_;have HBS:=nB_;have HGW:=nG_;clear n0_ n1_ nS_ nB_ nG_ ho hb hg hat))
     clear hqi hri
     go_roundw
     case rel=>exact⟨c-2,p+11,_,by go_num,by omega,HO,HS,HB,HBS,HR3,HRM,⟨by have:=HLEN.out;simp only [List.length_append,List.length_cons,List.length_nil];omega⟩,HGW⟩
     case measure=>simp [intOf];omega
    ·rw [if_neg (fun h=>hq h.2)] at hr3
     have HR3:=Aside0.mk hr3
     clear hr3 hroom hnn hqq hrr
     replace hq:45<=q:=by omega
     go_wp2_with (first | (go_at_call 107;refine kr.mono ?_;rintro e w' ⟨rfl,hS',hT'⟩;have nG_:=Aside0.mk (HGW.out.turn hT');have nO_:=Aside0.mk (own_turn HO.out HS.out.1 hT');have nB_:=Aside0.mk (HB.out.trans (hT'.below hbs));have nZ_:=Aside0.mk (show base<=w'.heap.size by rw [hT'.size];exact HBS.out);clear HO HS HB HBS HGW;have HO:=nO_;have HS:=Aside0.mk hS';have HB:=nB_;have HBS:=nZ_;have HGW:=nG_;clear nO_ nB_ nZ_ nG_ hS' hT') | (go_at_call 145;refine (alChar_bad _ q hq (by omega)).mono ?_;rintro e w' ⟨⟨x0,rfl⟩,hb'⟩;have nB_:=Aside0.mk (HB.out.trans (hb'.mono HBS.out));have nZ_:=Aside0.mk (Nat.le_trans HBS.out hb'.size);clear HB HBS;have HB:=nB_;have HBS:=nZ_;clear nB_ nZ_ hb') | (go_at_call 87;refine (wrapFmt _ 208 x0).mono ?_;rintro e w' ⟨⟨y0,rfl⟩,hb'⟩;have nB_:=Aside0.mk (HB.out.trans (hb'.mono HBS.out));clear HB;have HB:=nB_;clear nB_ hb'))
     go_ret2
     exact SegDone.bad HR3.out.symm HB.out
   ·rw [if_neg (fun h=>hroom h.1)] at hr3
    have HR3:=Aside0.mk hr3
    have kb:=readBits_bad wr s g p 11 bs HS.out HP.out (by omega) HLN.out (by decide) (by decide)
    clear hr3 hroom
    go_wp2_with (first | (go_at_call 107;refine kb.mono ?_;rintro e w' ⟨⟨x0,rfl⟩,hb'⟩;have nB_:=Aside0.mk (HB.out.trans (hb'.mono HBS.out));have nZ_:=Aside0.mk (Nat.le_trans HBS.out hb'.size);clear HO HS HB HBS;have HB:=nB_;have HBS:=nZ_;clear nB_ nZ_ hb') | (go_at_call 87;refine (wrapFmt _ 216 x0).mono ?_;rintro e w' ⟨⟨y0,rfl⟩,hb'⟩;have nB_:=Aside0.mk (HB.out.trans (hb'.mono HBS.out));clear HB;have HB:=nB_;clear nB_ hb'))
    go_ret2
    exact SegDone.bad HR3.out.symm HB.out
  ·by_cases h1:c=1
   ·subst h1
    have hr3:=HR.out
    rw [alSeg,if_neg (by decide),if_pos rfl] at hr3
    clear h3
    by_cases hroom:p+6<=8*bs.length
    ·have kr:=readBits wr s g p 6 bs HS.out hroom HLN.out (by decide) (by decide) HX.out
     obtain⟨n,hnn⟩:∃ n,rdBits bs p 6=n:=⟨_,rfl⟩
     rw [hnn] at kr hr3
     have hn24:n<64:=by rw [<- hnn];exact rdBits_lt _ _ _
     by_cases hn:n<45
     ·rw [if_pos ⟨hroom,hn⟩] at hr3
      have HR3:=Aside0.mk hr3
      clear hr3 hroom hnn
      go_wp2_with (first | (go_at_call 107;refine kr.mono ?_;rintro e w' ⟨rfl,hS',hT'⟩;have nG_:=Aside0.mk (HGW.out.turn hT');have nO_:=Aside0.mk (own_turn HO.out HS.out.1 hT');have nB_:=Aside0.mk (HB.out.trans (hT'.below hbs));have nZ_:=Aside0.mk (show base<=w'.heap.size by rw [hT'.size];exact HBS.out);clear HO HS HB HBS HGW;have HO:=nO_;have HS:=Aside0.mk hS';have HB:=nB_;have HBS:=nZ_;have HGW:=nG_;clear nO_ nB_ nZ_ nG_ hS' hT') | (go_at_call 145;refine (alChar _ n hn).mono ?_;rintro e w' ⟨rfl,rfl⟩) | ((with_reducible refine gate_builtin (b:=.append) (xs:=#[.tmp 81,.tmp 83]) rfl ?_);at_builtin;refine print_append_num (w0:=w0) base rfl (.tmp 81) (.tmp 83) 26 5 .u8 1 rfl Tryz.underlying26 F.info5 (by decide) _ _ _ rfl rfl HO.out HB.out HBS.out ?aL ?_;(case aL=>(have:=HLEN.out;(try simp only [List.length_append,List.length_cons,List.length_nil]);omega));intro v_ w1 ho hb hg hat;have nG_:=Aside0.mk (HGW.out.app hg hat);have nS_:=Aside0.mk (HS.out.grown (base:=base) HO.out hg0 hg);have nB_:=Aside0.mk (Nat.le_trans HBS.out hg.size);have n0_:=Aside0.mk ho;have n1_:=Aside0.mk hb;clear HO HB HS HBS HGW;have HO:=n0_;have HB:=n1_;have HS:=nS_;have HBS:=nB_;have HGW:=nG_;clear n0_ n1_ nS_ nB_ nG_ ho hb hg hat))
      go_ret2
      exact SegDone.fine HR3.out.symm HO.out HS.out HB.out HGW.out
     ·rw [if_neg (fun h=>hn h.2)] at hr3
      have HR3:=Aside0.mk hr3
      clear hr3 hroom hnn
      replace hn:45<=n:=by omega
      go_wp2_with (first | (go_at_call 107;refine kr.mono ?_;rintro e w' ⟨rfl,hS',hT'⟩;have nG_:=Aside0.mk (HGW.out.turn hT');have nO_:=Aside0.mk (own_turn HO.out HS.out.1 hT');have nB_:=Aside0.mk (HB.out.trans (hT'.below hbs));have nZ_:=Aside0.mk (show base<=w'.heap.size by rw [hT'.size];exact HBS.out);clear HO HS HB HBS HGW;have HO:=nO_;have HS:=Aside0.mk hS';have HB:=nB_;have HBS:=nZ_;have HGW:=nG_;clear nO_ nB_ nZ_ nG_ hS' hT') | (go_at_call 145;refine (alChar_bad _ n hn (by omega)).mono ?_;rintro e w' ⟨⟨x0,rfl⟩,hb'⟩;have nB_:=Aside0.mk (HB.out.trans (hb'.mono HBS.out));have nZ_:=Aside0.mk (Nat.le_trans HBS.out hb'.size);clear HB HBS;have HB:=nB_;have HBS:=nZ_;clear nB_ nZ_ hb') | (go_at_call 87;refine (wrapFmt _ 208 x0).mono ?_;rintro e w' ⟨⟨y0,rfl⟩,hb'⟩;have nB_:=Aside0.mk (HB.out.trans (hb'.mono HBS.out));clear HB;have HB:=nB_;clear nB_ hb'))
      go_ret2
      exact SegDone.bad HR3.out.symm HB.out
    ·rw [if_neg (fun h=>hroom h.1)] at hr3
     have HR3:=Aside0.mk hr3
     have kb:=readBits_bad wr s g p 6 bs HS.out HP.out (by omega) HLN.out (by decide) (by decide)
     clear hr3 hroom
     go_wp2_with (first | (go_at_call 107;refine kb.mono ?_;rintro e w' ⟨⟨x0,rfl⟩,hb'⟩;have nB_:=Aside0.mk (HB.out.trans (hb'.mono HBS.out));have nZ_:=Aside0.mk (Nat.le_trans HBS.out hb'.size);clear HO HS HB HBS;have HB:=nB_;have HBS:=nZ_;clear nB_ nZ_ hb') | (go_at_call 87;refine (wrapFmt _ 216 x0).mono ?_;rintro e w' ⟨⟨y0,rfl⟩,hb'⟩;have nB_:=Aside0.mk (HB.out.trans (hb'.mono HBS.out));clear HB;have HB:=nB_;clear nB_ hb'))
     go_ret2
     exact SegDone.bad HR3.out.symm HB.out
   ·obtain rfl:c=0:=by omega
    have hr3:=HR.out
    rw [alSeg,if_neg (by decide),if_neg (by decide)] at hr3
    have HR3:=Aside0.mk hr3
    clear h3 h1 hr3
    go_wp2
    go_ret2
    exact SegDone.fine HR3.out.symm HO.out HS.out HB.out HGW.out
end Go.Proofs.YtgccjgpdjkhpdaaGreat.B
