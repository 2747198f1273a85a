import Derived.Deep.RegionLaw
import Derived.Lib.Hide
import Derived.Test.YtgccjgpdjkhpdaaGreatVCrop11
import Derived.Test.YtgccjgpdjkhpdaaGreatVCrop12
/-! Own texts of this claim, part 13. -/
namespace Go.Proofs.YtgccjgpdjkhpdaaGreat.B
open Go.RowKit Go.Proofs.YtgccjgpdjkhpdaaGreatW.PrintWords Go.Proofs.YtgccjgpdjkhpdaaGreatW.PrintLast Go.Proofs.YtgccjgpdjkhpdaaGreatW.PrintMore
set_option linter.unusedVariables false
set_option linter.unusedSimpArgs false
def alStr:ByteArray:=⟨#[48,49,50,51,52,53,54,55,56,57,65,66,67,68,69,70,71,72,73,74,75,76,77,78,79,80,81,82,83,84,85,86,87,88,89,90,32,36,37,42,43,45,46,47,58]⟩
theorem alStr_look:∀ n:Fin 45,((alStr[n.val]'(n.isLt)).toNat:Int)=alCh n.val:=by decide +kernel
theorem alChar (w:World)(n:Nat)(h:n<45):Calls Tryz.prog 145 #[.int .i64 (n:Int)] w fun e w'=>e=.returned (.tuple #[.int .u8 (alCh n),.nilIface])/\w=w':=by
 have k:=alStr_look ⟨n,h⟩
 have K:=Aside0.mk k
 clear k
 go_enter Tryz.func145,Tryz.ntmps145
 go_wp2
 go_ret2
 refine⟨?_,rfl⟩
 rw [<- K.out]
 rfl
theorem alChar_bad (w:World)(n:Nat)(h:45<=n)(h2:n<=10000):Calls Tryz.prog 145 #[.int .i64 (n:Int)] w fun e w'=>(∃ x,e=.returned (.tuple #[.int .u8 0,.iface 208 x]))/\Below w.heap.size w w':=by
 go_enter Tryz.func145,Tryz.ntmps145
 go_wp2_with (go_at_call 89;refine (newFmt _ _).mono ?_;rintro e w' ⟨⟨y0,rfl⟩,hb'⟩)
 go_ret2
 exact⟨⟨_,rfl⟩,((Below.refl w.heap.size w).alloc (Nat.le_refl _) _).trans (hb'.mono (by simp))⟩
set_option maxHeartbeats 4000000 in
set_option maxRecDepth 8000 in
theorem alWalkG (w0 w:World)(base s g pos cnt:Nat)(bs:List Nat)(v:Value)(xs:List Int)(hS:SrcAt w s g bs pos)(hg0:g<base)(hbs:base<=s)(hO:w.ownsRow base 5 1 v xs.length (nums .u8 xs))(hB:Below base w0 w)(hbase:base<=w.heap.size)
  (hx:AllLt 8 bs) (hl:bs.length<=100000) (hcnt:cnt<=100000) (hxl:xs.length<=1000000) (hp:pos<=8*bs.length) :
  Calls Tryz.prog 114 #[.pointer (some ⟨s,0,none⟩),v,.int .i64 (cnt:Int),.bool true] w (SegDone w0 w v base s g bs ((alSeg bs pos cnt xs).map fun r=>(r.1.take xs.length++gs1 (r.1.drop xs.length),r.2))):=by
 obtain⟨R,hR⟩:∃ R,alSeg bs pos cnt xs=R:=⟨_,rfl⟩
 rw [hR]
 obtain⟨A0,c0,hv⟩:=own_slice hO
 obtain⟨N0,hN0⟩:∃ N0,xs.length=N0:=⟨_,rfl⟩
 rw [hN0] at hv ⊢
 subst hv
 have HGW:=Aside0.mk (Grow.refl w s (.slice A0 N0 c0))
 have HS:=Aside0.mk hS
 have HO:=Aside0.mk hO
 have HB:=Aside0.mk hB
 have HX:=Aside0.mk hx
 have HR:=Aside0.mk hR
 have HP:=Aside0.mk hp
 have HLN:=Aside0.mk hl
 have HXL:=Aside0.mk hxl
 have HNY:=Aside0.mk (show N0<=xs.length by omega)
 clear hS hO hB hx hR hp hl hxl hN0
 go_enter Tryz.func114,Tryz.ntmps114
 go_wp2
 go_loopw [1,2] (fun vr vc wr=>∃ (c p:Nat) (ys:List Int),vc=.int .i64 (c:Int)/\c<=cnt/\Aside0 (wr.ownsRow base 5 1 vr ys.length (nums .u8 ys))/\Aside0 (SrcAt wr s g bs p)/\Aside0 (Below base w0 wr)/\Aside0 (base<=wr.heap.size)/\
  Aside0 (alSeg bs p c ys=R)/\Aside0 (p<=8*bs.length)/\Aside0 (ys.length+c<=1100000)/\Aside0 (N0<=ys.length)/\Aside0 (Grow w wr s (.slice A0 N0 c0) vr)) (fun _ vc _=>(intOf vc).toNat)
 case atStart=>exact⟨cnt,pos,xs,rfl,Nat.le_refl _,HO,HS,HB,⟨hbase⟩,HR,HP,⟨by have:=HXL.out;omega⟩,HNY,HGW⟩
 case round=>
  clear HO HS HB HR HP HGW HNY
  obtain⟨c,p,ys,rfl,hcc,HO,HS,HB,HBS,HR,HP,HLEN,HNY,HGW⟩:=hrel
  by_cases h3:2<=c
  ·have hr3:=HR.out
   rw [alSeg,if_pos h3] at hr3
   by_cases hroom:p+11<=8*bs.length
   ·have kr:=readBits wr s g p 11 bs HS.out hroom HLN.out (by decide) (by decide) HX.out
    obtain⟨n,hnn⟩:∃ n,rdBits bs p 11=n:=⟨_,rfl⟩
    rw [hnn] at kr hr3
    have hn24:n<2048:=by rw [<- hnn];exact rdBits_lt _ _ _
    obtain⟨q,hqq⟩:∃ q,n/45=q:=⟨_,rfl⟩
    obtain⟨r,hrr⟩:∃ r,n%45=r:=⟨_,rfl⟩
    have hqi:(n:Int)/45=(q:Int):=by omega
    have hri:(n:Int)%45=(r:Int):=by omega
    have hq100:q<100:=by omega
    have hr:r<45:=by omega
    rw [hqq,hrr] at hr3
    by_cases hq:q<45
    ·rw [if_pos ⟨hroom,hq⟩] at hr3
     have HR3:=Aside0.mk hr3
     have HRM:=Aside0.mk hroom
     clear hr3 hroom hnn hqq hrr
     go_wp2_with (first | (go_at_call 107;refine kr.mono ?_;rintro e w' ⟨rfl,hS',hT'⟩;have nG_:=Aside0.mk (HGW.out.turn hT');have nO_:=Aside0.mk (own_turn HO.out HS.out.1 hT');have nB_:=Aside0.mk (HB.out.trans (hT'.below hbs));have nZ_:=Aside0.mk (show base<=w'.heap.size by rw [hT'.size];exact HBS.out);clear HO HS HB HBS HGW;have HO:=nO_;have HS:=Aside0.mk hS';have HB:=nB_;have HBS:=nZ_;have HGW:=nG_;clear nO_ nB_ nZ_ nG_ hS' hT') | (go_at_call 145;first | (with_reducible refine (alChar _ q hq).mono ?_;rintro e w' ⟨rfl,rfl⟩) | (with_reducible refine (alChar _ r hr).mono ?_;rintro e w' ⟨rfl,rfl⟩)) | ((with_reducible refine gate_builtin (b:=.append) (xs:=#[.tmp 43,.tmp 45]) rfl ?_);at_builtin;refine print_append_num (w0:=w0) base rfl (.tmp 43) (.tmp 45) 26 5 .u8 1 rfl Tryz.underlying26 F.info5 (by decide) _ _ _ rfl rfl HO.out HB.out HBS.out ?aL ?_;(case aL=>(have:=HLEN.out;(try simp only [List.length_append,List.length_cons,List.length_nil]);omega));intro v_ w1 ho hb hg hat;have nG_:=Aside0.mk (HGW.out.app hg hat);have nS_:=Aside0.mk (HS.out.grown (base:=base) HO.out hg0 hg);have nB_:=Aside0.mk (Nat.le_trans HBS.out hg.size);have n0_:=Aside0.mk ho;have n1_:=Aside0.mk hb;clear HO HB HS HBS HGW;have HO:=n0_;have HB:=n1_;have HS:=nS_;have HBS:=nB_;have HGW:=nG_;clear n0_ n1_ nS_ nB_ nG_ ho hb hg hat) | ((with_reducible refine gate_builtin (b:=.append) (xs:=#[.tmp 53,.tmp 55]) rfl ?_);at_builtin;refine print_append_num (w0:=w0) base rfl (.tmp 53) (.tmp 55) 26 5 .u8 1 rfl Tryz.underlying26 F.info5 (by decide) _ _ _ rfl rfl HO.out HB.out HBS.out ?aL ?_;(case aL=>(have:=HLEN.out;(try simp only [List.length_append,List.length_cons,List.length_nil]);omega));intro v_ w1 ho hb hg hat;have nG_:=Aside0.mk (HGW.out.app hg hat);have nS_:=Aside0.mk (HS.out.grown (base:=base) HO.out hg0 hg);have nB_:=Aside0.mk (Nat.le_trans HBS.out hg.size);have n0_:=Aside0.mk ho;have n1_:=Aside0.mk hb;clear HO HB HS HBS HGW;have HO:=n0_;have HB:=n1_;have HS:=nS_;have HBS:=nB_;have HGW:=nG_;clear n0_ n1_ nS_ nB_ nG_ ho hb hg hat))
     clear hqi hri
     go_roundw
     case rel=>exact⟨c-2,p+11,_,by go_num,by omega,HO,HS,HB,HBS,HR3,HRM,⟨by have:=HLEN.out;simp only [List.length_append,List.length_cons,List.length_nil];omega⟩,⟨by have:=HNY.out;(try simp only [List.length_append,List.length_cons,List.length_nil]);omega⟩,HGW⟩
     case measure=>simp [intOf];omega
    ·rw [if_neg (fun h=>hq h.2)] at hr3
     have HR3:=Aside0.mk hr3
     clear hr3 hroom hnn hqq hrr
     replace hq:45<=q:=by omega
     go_wp2_with (first | (go_at_call 107;refine kr.mono ?_;rintro e w' ⟨rfl,hS',hT'⟩;have nG_:=Aside0.mk (HGW.out.turn hT');have nO_:=Aside0.mk (own_turn HO.out HS.out.1 hT');have nB_:=Aside0.mk (HB.out.trans (hT'.below hbs));have nZ_:=Aside0.mk (show base<=w'.heap.size by rw [hT'.size];exact HBS.out);clear HO HS HB HBS HGW;have HO:=nO_;have HS:=Aside0.mk hS';have HB:=nB_;have HBS:=nZ_;have HGW:=nG_;clear nO_ nB_ nZ_ nG_ hS' hT') | (go_at_call 145;refine (alChar_bad _ q hq (by omega)).mono ?_;rintro e w' ⟨⟨x0,rfl⟩,hb'⟩;have nB_:=Aside0.mk (HB.out.trans (hb'.mono HBS.out));have nZ_:=Aside0.mk (Nat.le_trans HBS.out hb'.size);clear HB HBS;have HB:=nB_;have HBS:=nZ_;clear nB_ nZ_ hb') | (go_at_call 87;refine (wrapFmt _ 208 x0).mono ?_;rintro e w' ⟨⟨y0,rfl⟩,hb'⟩;have nB_:=Aside0.mk (HB.out.trans (hb'.mono HBS.out));clear HB;have HB:=nB_;clear nB_ hb'))
     go_ret2
     exact SegDone.bad (by rw [<- HR3.out];rfl) HB.out
   ·rw [if_neg (fun h=>hroom h.1)] at hr3
    have HR3:=Aside0.mk hr3
    have kb:=readBits_bad wr s g p 11 bs HS.out HP.out (by omega) HLN.out (by decide) (by decide)
    clear hr3 hroom
    go_wp2_with (first | (go_at_call 107;refine kb.mono ?_;rintro e w' ⟨⟨x0,rfl⟩,hb'⟩;have nB_:=Aside0.mk (HB.out.trans (hb'.mono HBS.out));have nZ_:=Aside0.mk (Nat.le_trans HBS.out hb'.size);clear HO HS HB HBS;have HB:=nB_;have HBS:=nZ_;clear nB_ nZ_ hb') | (go_at_call 87;refine (wrapFmt _ 216 x0).mono ?_;rintro e w' ⟨⟨y0,rfl⟩,hb'⟩;have nB_:=Aside0.mk (HB.out.trans (hb'.mono HBS.out));clear HB;have HB:=nB_;clear nB_ hb'))
    go_ret2
    exact SegDone.bad (by rw [<- HR3.out];rfl) HB.out
  ·by_cases h1:c=1
   ·subst h1
    have hr3:=HR.out
    rw [alSeg,if_neg (by decide),if_pos rfl] at hr3
    clear h3
    by_cases hroom:p+6<=8*bs.length
    ·have kr:=readBits wr s g p 6 bs HS.out hroom HLN.out (by decide) (by decide) HX.out
     obtain⟨n,hnn⟩:∃ n,rdBits bs p 6=n:=⟨_,rfl⟩
     rw [hnn] at kr hr3
     have hn24:n<64:=by rw [<- hnn];exact rdBits_lt _ _ _
     by_cases hn:n<45
     ·rw [if_pos ⟨hroom,hn⟩] at hr3
      have HR3:=Aside0.mk hr3
      clear hr3 hroom hnn
      go_wp2_with (first | (go_at_call 107;refine kr.mono ?_;rintro e w' ⟨rfl,hS',hT'⟩;have nG_:=Aside0.mk (HGW.out.turn hT');have nO_:=Aside0.mk (own_turn HO.out HS.out.1 hT');have nB_:=Aside0.mk (HB.out.trans (hT'.below hbs));have nZ_:=Aside0.mk (show base<=w'.heap.size by rw [hT'.size];exact HBS.out);clear HO HS HB HBS HGW;have HO:=nO_;have HS:=Aside0.mk hS';have HB:=nB_;have HBS:=nZ_;have HGW:=nG_;clear nO_ nB_ nZ_ nG_ hS' hT') | (go_at_call 145;refine (alChar _ n hn).mono ?_;rintro e w' ⟨rfl,rfl⟩) | ((with_reducible refine gate_builtin (b:=.append) (xs:=#[.tmp 81,.tmp 83]) rfl ?_);at_builtin;refine print_append_num (w0:=w0) base rfl (.tmp 81) (.tmp 83) 26 5 .u8 1 rfl Tryz.underlying26 F.info5 (by decide) _ _ _ rfl rfl HO.out HB.out HBS.out ?aL ?_;(case aL=>(have:=HLEN.out;(try simp only [List.length_append,List.length_cons,List.length_nil]);omega));intro v_ w1 ho hb hg hat;have nG_:=Aside0.mk (HGW.out.app hg hat);have nS_:=Aside0.mk (HS.out.grown (base:=base) HO.out hg0 hg);have nB_:=Aside0.mk (Nat.le_trans HBS.out hg.size);have n0_:=Aside0.mk ho;have n1_:=Aside0.mk hb;clear HO HB HS HBS HGW;have HO:=n0_;have HB:=n1_;have HS:=nS_;have HBS:=nB_;have HGW:=nG_;clear n0_ n1_ nS_ nB_ nG_ ho hb hg hat))
      obtain⟨YS,hYS⟩:∃ YS,YS=(ys++[alCh n]):=⟨_,rfl⟩
      rw [<- hYS] at HO
      obtain⟨A1,cc1,hv1⟩:=own_slice HO.out
      obtain⟨n1,hn1⟩:∃ n1,YS.length=n1:=⟨_,rfl⟩
      obtain⟨Z,hZ⟩:∃ Z,YS.take N0++gs1 (YS.drop N0)=Z:=⟨_,rfl⟩
      rw [hn1] at hv1
      subst hv1
      have HN1:=Aside0.mk hn1
      have HZ1:=Aside0.mk hZ
      have hle1:N0<=n1:=by rw [<- hn1,hYS];have:=HNY.out;(try simp only [List.length_append,List.length_cons,List.length_nil]);omega
      have hz1:n1<=1200000:=by rw [<- hn1,hYS];have:=HLEN.out;(try simp only [List.length_append,List.length_cons,List.length_nil]);omega
      have HRR:=Aside0.mk (show R=some (YS,(p+6)) by rw [hYS];exact HR3.out.symm)
      have hO1:=HO.out
      rw [hn1] at hO1
      have HO1:=Aside0.mk hO1
      have HZR:=Aside0.mk (show R.map (fun r=>(r.1.take N0++gs1 (r.1.drop N0),r.2))=some (Z,(p+6)) by rw [HRR.out,<- hZ];rfl)
      clear hn1 hO1 HO HLEN hYS hZ HRR HR3
      go_loopw [1,17] (fun vr vi wt=>∃ (i n:Nat) (zs:List Int) (A:Option Addr) (cc:Nat),vi=.int .i64 (i:Int)/\vr=.slice A n cc/\i<=n/\n<=1200000/\Aside0 (zs.length=n)/\Aside0 (wt.ownsRow base 5 1 (.slice A n cc) n (nums .u8 zs))/\Aside0 (SrcAt wt s g bs (p+6))/\Aside0 (Below base w0 wt)/\Aside0 (base<=wt.heap.size)/\Aside0 (Grow w wt s (.slice A0 N0 c0) (.slice A n cc))/\Aside0 (zs.take i++gs1 (zs.drop i)=Z)) (fun vr vi _=>(sliceLen vr-intOf vi).toNat)
      case atStart=>exact⟨N0,n1,_,A1,cc1,rfl,rfl,hle1,hz1,HN1,HO1,HS,HB,HBS,HGW,HZ1⟩
      case round=>
       clear HO1 HS HB HBS HGW HZ1 HN1 hz1 hle1
       obtain⟨i,n,zs,A,cc,rfl,rfl,hin,hnb,HN,HO,HS,HB,HBS,HGW,HZ⟩:=hrel
       by_cases hi:i<n
       ·obtain⟨b,cc',hf,-,-⟩:=HO.out.form (show 0<n by omega)
        simp only [Value.slice.injEq,true_and] at hf
        obtain⟨rfl,rfl⟩:=hf
        obtain⟨x,hx⟩:∃ x,rd zs i=x:=⟨_,rfl⟩
        have hc:=own_at HO.out (i:Int) (by omega) (by omega)
        rw [hx,Int.toNat_natCast] at hc
        obtain⟨r0,f0⟩:=hc
        have hxd:zs.getD i 0=x:=by rw [<- hx];unfold rd;rw [Int.toNat_natCast]
        have HXD:=Aside0.mk hxd
        clear hx hxd
        by_cases hx37:x=37
        ·subst hx37
         by_cases hi1:i+1<n
         ·obtain⟨y,hy⟩:∃ y,rd zs (i+1:Nat)=y:=⟨_,rfl⟩
          have hc:=own_at HO.out ((i+1:Nat):Int) (by omega) (by omega)
          rw [hy,Int.toNat_natCast] at hc
          have hyd:zs.getD (i+1) 0=y:=by rw [<- hy];unfold rd;rw [Int.toNat_natCast]
          have HYD:=Aside0.mk hyd
          have r1:=hc.1
          have hdec:decide ((i:Int)<(n:Int)-1)=true:=decide_eq_true (by omega)
          clear hy hyd hc
          by_cases hy37:y=37
          ·subst hy37
           have HZ2:=Aside0.mk (show (dropAt zs i).take (i+1)++gs1 ((dropAt zs i).drop (i+1))=Z by rw [gs_two zs i (by rw [HN.out];exact hi1) HXD.out HYD.out];exact HZ.out)
           obtain⟨ho,hg⟩:=own_dropAt (own_drew HO.out) HN.out hi
           have HL2:=Aside0.mk (show (dropAt zs i).length=i+(n-(i+1)) by rw [dropAt_len zs i (by rw [HN.out];exact hi),HN.out])
           have HO2:=Aside0.mk ho
           have HG2:=Aside0.mk (grown_drew hg)
           obtain⟨Ab,hAb,hnews⟩:=behind_get (own_drew HO.out) HN.out hi
           obtain⟨i0,hi0,hz0,hz1,hz2⟩:=info_parts F.info5
           have s1:=Lib.hid (show (behind zs i).length=(n-(i+1))*1 by rw [behind_len,HN.out,Nat.mul_one])
           have s2:=Lib.hid (show ∀ u∈behind zs i,u.oneCell'=true by
            intro u hu
            unfold behind nums at hu
            obtain⟨x,_,rfl⟩:=List.mem_map.1 hu
            rfl)
           have s3:=Lib.hid (show ∀ j,j<(behind zs i).length->(wr.drew.cell? ⟨b,0+i*1+j,none⟩).isSome=true/\wr.drew.frozen? ⟨b,0+i*1+j,none⟩=false by
            intro j hj
            rw [behind_len,HN.out] at hj
            have hq:=own_at HO.out ((i+j:Nat):Int) (by omega) (by omega)
            rw [Int.toNat_natCast] at hq
            rw [Nat.mul_one,Nat.zero_add]
            exact⟨by show (wr.cell? _).isSome=true;rw [hq.1];rfl,hq.2⟩)
           have s4:=Lib.hid hnews
           obtain⟨hnc,hcm,-⟩:=own_cap HO.out
           have hic:i<=cc:=by omega
           have hwr:IntKind.i64.wrap ((i:Int)+1)=(i:Int)+1:=by rw [IntKind.wrap_i64];omega
           have hp0:(0:Int)<=(i:Int)+1:=by omega
           have hp1:(i:Int)+1<=(n:Int):=by omega
           have hp2:((i:Int)+1).toNat=i+1:=by omega
           clear hnews
           go_wp2
           clear r0 f0 r1
           go_region_law (refine step_append_room rfl (.tmp 113) (.tmp 117) 26 rfl 5 i0 1 Tryz.underlying26 hi0 hz1 b 0 i cc (by simp [Act.eval,Act.put]) Ab (n-(i+1)) (cc-(i+1)) (behind zs i) (by simp [Act.eval,Act.put]) s1.out s4.out s2.out (by omega) s3.out ?_)
           go_wp2
           go_roundw
           case rel=>
            have hG:=HGW.out.app (x:=wr) (v2:=.slice (some ⟨b,0,none⟩) (i+(n-(i+1))) cc) HG2.out (.inl rfl)
            have hS:=HS.out.grown (base:=base) HO.out hg0 HG2.out
            first | exact⟨i+1,i+(n-(i+1)),dropAt zs i,_,cc,by go_num,rfl,by omega,by omega,HL2,⟨by have:=HO2.out;rw [HL2.out] at this;simpa using this⟩,⟨by simpa using hS⟩,⟨by have:=HB.out.grown HG2.out HBS.out (own_base HO.out);simpa using this⟩,⟨by have:=Nat.le_trans HBS.out HG2.out.size;simpa using this⟩,⟨by simpa using hG⟩,HZ2⟩ | ((repeat apply Exists.intro);exact⟨⟨i+1,i+(n-(i+1)),dropAt zs i,_,cc,by go_num,rfl,by omega,by omega,HL2,⟨by have:=HO2.out;rw [HL2.out] at this;simpa using this⟩,⟨by simpa using hS⟩,⟨by have:=HB.out.grown HG2.out HBS.out (own_base HO.out);simpa using this⟩,⟨by have:=Nat.le_trans HBS.out HG2.out.size;simpa using this⟩,⟨by simpa using hG⟩,HZ2⟩,rfl⟩)
           case measure=>simp [intOf,sliceLen];omega
          ·have HZ2:=Aside0.mk (show (zs.set i 29).take (i+1)++gs1 ((zs.set i 29).drop (i+1))=Z by rw [gs_sep zs i (by rw [HN.out];exact hi) HXD.out (.inr (by rw [HYD.out];exact hy37))];exact HZ.out)
           obtain⟨ho,hg⟩:=own_store HO.out (i:Int) 29
           rw [Int.toNat_natCast] at ho hg
           have HO2:=Aside0.mk ho
           have HG2:=Aside0.mk hg
           clear ho hg
           go_wp2
           go_roundw
           case rel=>
            have hG:=HGW.out.app (x:=wr) (v2:=.slice (some ⟨b,0,none⟩) n cc) HG2.out (.inl rfl)
            have hS:=HS.out.grown (base:=base) HO.out hg0 HG2.out
            exact⟨i+1,n,zs.set i 29,_,cc,by go_num,rfl,by omega,hnb,⟨by rw [List.length_set];exact HN.out⟩,HO2,⟨hS⟩,⟨HB.out.grown HG2.out HBS.out (own_base HO.out)⟩,⟨Nat.le_trans HBS.out HG2.out.size⟩,⟨hG⟩,HZ2⟩
           case measure=>simp [intOf,sliceLen];omega
         ·have hdec:decide ((i:Int)<(n:Int)-1)=false:=decide_eq_false (by omega)
          have HZ2:=Aside0.mk (show (zs.set i 29).take (i+1)++gs1 ((zs.set i 29).drop (i+1))=Z by rw [gs_sep zs i (by rw [HN.out];exact hi) HXD.out (.inl (by rw [HN.out];omega))];exact HZ.out)
          obtain⟨ho,hg⟩:=own_store HO.out (i:Int) 29
          rw [Int.toNat_natCast] at ho hg
          have HO2:=Aside0.mk ho
          have HG2:=Aside0.mk hg
          clear ho hg
          go_wp2
          go_roundw
          case rel=>
           have hG:=HGW.out.app (x:=wr) (v2:=.slice (some ⟨b,0,none⟩) n cc) HG2.out (.inl rfl)
           have hS:=HS.out.grown (base:=base) HO.out hg0 HG2.out
           exact⟨i+1,n,zs.set i 29,_,cc,by go_num,rfl,by omega,hnb,⟨by rw [List.length_set];exact HN.out⟩,HO2,⟨hS⟩,⟨HB.out.grown HG2.out HBS.out (own_base HO.out)⟩,⟨Nat.le_trans HBS.out HG2.out.size⟩,⟨hG⟩,HZ2⟩
          case measure=>simp [intOf,sliceLen];omega
        ·have HZ2:=Aside0.mk (show zs.take (i+1)++gs1 (zs.drop (i+1))=Z by rw [gs_next zs i (by rw [HN.out];exact hi) (by rw [HXD.out];exact hx37)];exact HZ.out)
         go_wp2
         go_roundw
         case rel=>exact⟨i+1,n,zs,_,cc,by go_num,rfl,by omega,hnb,HN,HO,HS,HB,HBS,HGW,HZ2⟩
         case measure=>simp [intOf,sliceLen];omega
       ·have:i=n:=by omega
        subst this
        have HZ2:=Aside0.mk (show zs=Z by have:=HZ.out;rw [<- HN.out,List.take_length,List.drop_length] at this;simpa [gs1] using this)
        go_wp2
        go_ret2
        exact SegDone.fine HZR.out (by rw [<- HZ2.out,HN.out];exact HO.out) HS.out HB.out HGW.out
     ·rw [if_neg (fun h=>hn h.2)] at hr3
      have HR3:=Aside0.mk hr3
      clear hr3 hroom hnn
      replace hn:45<=n:=by omega
      go_wp2_with (first | (go_at_call 107;refine kr.mono ?_;rintro e w' ⟨rfl,hS',hT'⟩;have nG_:=Aside0.mk (HGW.out.turn hT');have nO_:=Aside0.mk (own_turn HO.out HS.out.1 hT');have nB_:=Aside0.mk (HB.out.trans (hT'.below hbs));have nZ_:=Aside0.mk (show base<=w'.heap.size by rw [hT'.size];exact HBS.out);clear HO HS HB HBS HGW;have HO:=nO_;have HS:=Aside0.mk hS';have HB:=nB_;have HBS:=nZ_;have HGW:=nG_;clear nO_ nB_ nZ_ nG_ hS' hT') | (go_at_call 145;refine (alChar_bad _ n hn (by omega)).mono ?_;rintro e w' ⟨⟨x0,rfl⟩,hb'⟩;have nB_:=Aside0.mk (HB.out.trans (hb'.mono HBS.out));have nZ_:=Aside0.mk (Nat.le_trans HBS.out hb'.size);clear HB HBS;have HB:=nB_;have HBS:=nZ_;clear nB_ nZ_ hb') | (go_at_call 87;refine (wrapFmt _ 208 x0).mono ?_;rintro e w' ⟨⟨y0,rfl⟩,hb'⟩;have nB_:=Aside0.mk (HB.out.trans (hb'.mono HBS.out));clear HB;have HB:=nB_;clear nB_ hb'))
      go_ret2
      exact SegDone.bad (by rw [<- HR3.out];rfl) HB.out
    ·rw [if_neg (fun h=>hroom h.1)] at hr3
     have HR3:=Aside0.mk hr3
     have kb:=readBits_bad wr s g p 6 bs HS.out HP.out (by omega) HLN.out (by decide) (by decide)
     clear hr3 hroom
     go_wp2_with (first | (go_at_call 107;refine kb.mono ?_;rintro e w' ⟨⟨x0,rfl⟩,hb'⟩;have nB_:=Aside0.mk (HB.out.trans (hb'.mono HBS.out));have nZ_:=Aside0.mk (Nat.le_trans HBS.out hb'.size);clear HO HS HB HBS;have HB:=nB_;have HBS:=nZ_;clear nB_ nZ_ hb') | (go_at_call 87;refine (wrapFmt _ 216 x0).mono ?_;rintro e w' ⟨⟨y0,rfl⟩,hb'⟩;have nB_:=Aside0.mk (HB.out.trans (hb'.mono HBS.out));clear HB;have HB:=nB_;clear nB_ hb'))
     go_ret2
     exact SegDone.bad (by rw [<- HR3.out];rfl) HB.out
   ·obtain rfl:c=0:=by omega
    have hr3:=HR.out
    rw [alSeg,if_neg (by decide),if_neg (by decide)] at hr3
    have HR3:=Aside0.mk hr3
    clear h3 h1 hr3
    go_wp2
    obtain⟨YS,hYS⟩:∃ YS,YS=ys:=⟨_,rfl⟩
    rw [<- hYS] at HO
    obtain⟨A1,cc1,hv1⟩:=own_slice HO.out
    obtain⟨n1,hn1⟩:∃ n1,YS.length=n1:=⟨_,rfl⟩
    obtain⟨Z,hZ⟩:∃ Z,YS.take N0++gs1 (YS.drop N0)=Z:=⟨_,rfl⟩
    rw [hn1] at hv1
    subst hv1
    have HN1:=Aside0.mk hn1
    have HZ1:=Aside0.mk hZ
    have hle1:N0<=n1:=by rw [<- hn1,hYS];have:=HNY.out;(try simp only [List.length_append,List.length_cons,List.length_nil]);omega
    have hz1:n1<=1200000:=by rw [<- hn1,hYS];have:=HLEN.out;(try simp only [List.length_append,List.length_cons,List.length_nil]);omega
    have HRR:=Aside0.mk (show R=some (YS,p) by rw [hYS];exact HR3.out.symm)
    have hO1:=HO.out
    rw [hn1] at hO1
    have HO1:=Aside0.mk hO1
    have HZR:=Aside0.mk (show R.map (fun r=>(r.1.take N0++gs1 (r.1.drop N0),r.2))=some (Z,p) by rw [HRR.out,<- hZ];rfl)
    clear hn1 hO1 HO HLEN hYS hZ HRR HR3
    go_loopw [1,17] (fun vr vi wt=>∃ (i n:Nat) (zs:List Int) (A:Option Addr) (cc:Nat),vi=.int .i64 (i:Int)/\vr=.slice A n cc/\i<=n/\n<=1200000/\Aside0 (zs.length=n)/\Aside0 (wt.ownsRow base 5 1 (.slice A n cc) n (nums .u8 zs))/\Aside0 (SrcAt wt s g bs p)/\Aside0 (Below base w0 wt)/\Aside0 (base<=wt.heap.size)/\Aside0 (Grow w wt s (.slice A0 N0 c0) (.slice A n cc))/\Aside0 (zs.take i++gs1 (zs.drop i)=Z)) (fun vr vi _=>(sliceLen vr-intOf vi).toNat)
    case atStart=>exact⟨N0,n1,_,A1,cc1,rfl,rfl,hle1,hz1,HN1,HO1,HS,HB,HBS,HGW,HZ1⟩
    case round=>
     clear HO1 HS HB HBS HGW HZ1 HN1 hz1 hle1
     obtain⟨i,n,zs,A,cc,rfl,rfl,hin,hnb,HN,HO,HS,HB,HBS,HGW,HZ⟩:=hrel
     by_cases hi:i<n
     ·obtain⟨b,cc',hf,-,-⟩:=HO.out.form (show 0<n by omega)
      simp only [Value.slice.injEq,true_and] at hf
      obtain⟨rfl,rfl⟩:=hf
      obtain⟨x,hx⟩:∃ x,rd zs i=x:=⟨_,rfl⟩
      have hc:=own_at HO.out (i:Int) (by omega) (by omega)
      rw [hx,Int.toNat_natCast] at hc
      obtain⟨r0,f0⟩:=hc
      have hxd:zs.getD i 0=x:=by rw [<- hx];unfold rd;rw [Int.toNat_natCast]
      have HXD:=Aside0.mk hxd
      clear hx hxd
      by_cases hx37:x=37
      ·subst hx37
       by_cases hi1:i+1<n
       ·obtain⟨y,hy⟩:∃ y,rd zs (i+1:Nat)=y:=⟨_,rfl⟩
        have hc:=own_at HO.out ((i+1:Nat):Int) (by omega) (by omega)
        rw [hy,Int.toNat_natCast] at hc
        have hyd:zs.getD (i+1) 0=y:=by rw [<- hy];unfold rd;rw [Int.toNat_natCast]
        have HYD:=Aside0.mk hyd
        have r1:=hc.1
        have hdec:decide ((i:Int)<(n:Int)-1)=true:=decide_eq_true (by omega)
        clear hy hyd hc
        by_cases hy37:y=37
        ·subst hy37
         have HZ2:=Aside0.mk (show (dropAt zs i).take (i+1)++gs1 ((dropAt zs i).drop (i+1))=Z by rw [gs_two zs i (by rw [HN.out];exact hi1) HXD.out HYD.out];exact HZ.out)
         obtain⟨ho,hg⟩:=own_dropAt (own_drew HO.out) HN.out hi
         have HL2:=Aside0.mk (show (dropAt zs i).length=i+(n-(i+1)) by rw [dropAt_len zs i (by rw [HN.out];exact hi),HN.out])
         have HO2:=Aside0.mk ho
         have HG2:=Aside0.mk (grown_drew hg)
         obtain⟨Ab,hAb,hnews⟩:=behind_get (own_drew HO.out) HN.out hi
         obtain⟨i0,hi0,hz0,hz1,hz2⟩:=info_parts F.info5
         have s1:=Lib.hid (show (behind zs i).length=(n-(i+1))*1 by rw [behind_len,HN.out,Nat.mul_one])
         have s2:=Lib.hid (show ∀ u∈behind zs i,u.oneCell'=true by
          intro u hu
          unfold behind nums at hu
          obtain⟨x,_,rfl⟩:=List.mem_map.1 hu
          rfl)
         have s3:=Lib.hid (show ∀ j,j<(behind zs i).length->(wr.drew.cell? ⟨b,0+i*1+j,none⟩).isSome=true/\wr.drew.frozen? ⟨b,0+i*1+j,none⟩=false by
          intro j hj
          rw [behind_len,HN.out] at hj
          have hq:=own_at HO.out ((i+j:Nat):Int) (by omega) (by omega)
          rw [Int.toNat_natCast] at hq
          rw [Nat.mul_one,Nat.zero_add]
          exact⟨by show (wr.cell? _).isSome=true;rw [hq.1];rfl,hq.2⟩)
         have s4:=Lib.hid hnews
         obtain⟨hnc,hcm,-⟩:=own_cap HO.out
         have hic:i<=cc:=by omega
         have hwr:IntKind.i64.wrap ((i:Int)+1)=(i:Int)+1:=by rw [IntKind.wrap_i64];omega
         have hp0:(0:Int)<=(i:Int)+1:=by omega
         have hp1:(i:Int)+1<=(n:Int):=by omega
         have hp2:((i:Int)+1).toNat=i+1:=by omega
         clear hnews
         go_wp2
         clear r0 f0 r1
         go_region_law (refine step_append_room rfl (.tmp 113) (.tmp 117) 26 rfl 5 i0 1 Tryz.underlying26 hi0 hz1 b 0 i cc (by simp [Act.eval,Act.put]) Ab (n-(i+1)) (cc-(i+1)) (behind zs i) (by simp [Act.eval,Act.put]) s1.out s4.out s2.out (by omega) s3.out ?_)
         go_wp2
         go_roundw
         case rel=>
          have hG:=HGW.out.app (x:=wr) (v2:=.slice (some ⟨b,0,none⟩) (i+(n-(i+1))) cc) HG2.out (.inl rfl)
          have hS:=HS.out.grown (base:=base) HO.out hg0 HG2.out
          first | exact⟨i+1,i+(n-(i+1)),dropAt zs i,_,cc,by go_num,rfl,by omega,by omega,HL2,⟨by have:=HO2.out;rw [HL2.out] at this;simpa using this⟩,⟨by simpa using hS⟩,⟨by have:=HB.out.grown HG2.out HBS.out (own_base HO.out);simpa using this⟩,⟨by have:=Nat.le_trans HBS.out HG2.out.size;simpa using this⟩,⟨by simpa using hG⟩,HZ2⟩ | ((repeat apply Exists.intro);exact⟨⟨i+1,i+(n-(i+1)),dropAt zs i,_,cc,by go_num,rfl,by omega,by omega,HL2,⟨by have:=HO2.out;rw [HL2.out] at this;simpa using this⟩,⟨by simpa using hS⟩,⟨by have:=HB.out.grown HG2.out HBS.out (own_base HO.out);simpa using this⟩,⟨by have:=Nat.le_trans HBS.out HG2.out.size;simpa using this⟩,⟨by simpa using hG⟩,HZ2⟩,rfl⟩)
         case measure=>simp [intOf,sliceLen];omega
        ·have HZ2:=Aside0.mk (show (zs.set i 29).take (i+1)++gs1 ((zs.set i 29).drop (i+1))=Z by rw [gs_sep zs i (by rw [HN.out];exact hi) HXD.out (.inr (by rw [HYD.out];exact hy37))];exact HZ.out)
         obtain⟨ho,hg⟩:=own_store HO.out (i:Int) 29
         rw [Int.toNat_natCast] at ho hg
         have HO2:=Aside0.mk ho
         have HG2:=Aside0.mk hg
         clear ho hg
         go_wp2
         go_roundw
         case rel=>
          have hG:=HGW.out.app (x:=wr) (v2:=.slice (some ⟨b,0,none⟩) n cc) HG2.out (.inl rfl)
          have hS:=HS.out.grown (base:=base) HO.out hg0 HG2.out
          exact⟨i+1,n,zs.set i 29,_,cc,by go_num,rfl,by omega,hnb,⟨by rw [List.length_set];exact HN.out⟩,HO2,⟨hS⟩,⟨HB.out.grown HG2.out HBS.out (own_base HO.out)⟩,⟨Nat.le_trans HBS.out HG2.out.size⟩,⟨hG⟩,HZ2⟩
         case measure=>simp [intOf,sliceLen];omega
       ·have hdec:decide ((i:Int)<(n:Int)-1)=false:=decide_eq_false (by omega)
        have HZ2:=Aside0.mk (show (zs.set i 29).take (i+1)++gs1 ((zs.set i 29).drop (i+1))=Z by rw [gs_sep zs i (by rw [HN.out];exact hi) HXD.out (.inl (by rw [HN.out];omega))];exact HZ.out)
        obtain⟨ho,hg⟩:=own_store HO.out (i:Int) 29
        rw [Int.toNat_natCast] at ho hg
        have HO2:=Aside0.mk ho
        have HG2:=Aside0.mk hg
        clear ho hg
        go_wp2
        go_roundw
        case rel=>
         have hG:=HGW.out.app (x:=wr) (v2:=.slice (some ⟨b,0,none⟩) n cc) HG2.out (.inl rfl)
         have hS:=HS.out.grown (base:=base) HO.out hg0 HG2.out
         exact⟨i+1,n,zs.set i 29,_,cc,by go_num,rfl,by omega,hnb,⟨by rw [List.length_set];exact HN.out⟩,HO2,⟨hS⟩,⟨HB.out.grown HG2.out HBS.out (own_base HO.out)⟩,⟨Nat.le_trans HBS.out HG2.out.size⟩,⟨hG⟩,HZ2⟩
        case measure=>simp [intOf,sliceLen];omega
      ·have HZ2:=Aside0.mk (show zs.take (i+1)++gs1 (zs.drop (i+1))=Z by rw [gs_next zs i (by rw [HN.out];exact hi) (by rw [HXD.out];exact hx37)];exact HZ.out)
       go_wp2
       go_roundw
       case rel=>exact⟨i+1,n,zs,_,cc,by go_num,rfl,by omega,hnb,HN,HO,HS,HB,HBS,HGW,HZ2⟩
       case measure=>simp [intOf,sliceLen];omega
     ·have:i=n:=by omega
      subst this
      have HZ2:=Aside0.mk (show zs=Z by have:=HZ.out;rw [<- HN.out,List.take_length,List.drop_length] at this;simpa [gs1] using this)
      go_wp2
      go_ret2
      exact SegDone.fine HZR.out (by rw [<- HZ2.out,HN.out];exact HO.out) HS.out HB.out HGW.out
set_option maxHeartbeats 4000000 in
set_option maxRecDepth 8000 in
theorem alWalk (w0 w:World)(base s g pos cnt:Nat)(bs:List Nat)(v:Value)(xs:List Int)(hS:SrcAt w s g bs pos)(hg0:g<base)(hbs:base<=s)(hO:w.ownsRow base 5 1 v xs.length (nums .u8 xs))(hB:Below base w0 w)(hbase:base<=w.heap.size)
  (hx:AllLt 8 bs) (hl:bs.length<=100000) (hcnt:cnt<=100000) (hxl:xs.length<=1000000) (hp:pos<=8*bs.length) :
  Calls Tryz.prog 114 #[.pointer (some ⟨s,0,none⟩),v,.int .i64 (cnt:Int),.bool false] w (SegDone w0 w v base s g bs (alSeg bs pos cnt xs)):=by
 obtain⟨R,hR⟩:∃ R,alSeg bs pos cnt xs=R:=⟨_,rfl⟩
 rw [hR]
 obtain⟨A0,c0,hv⟩:=own_slice hO
 obtain⟨N0,hN0⟩:∃ N0,xs.length=N0:=⟨_,rfl⟩
 rw [hN0] at hv
 subst hv
 have HGW:=Aside0.mk (Grow.refl w s (.slice A0 N0 c0))
 have HS:=Aside0.mk hS
 have HO:=Aside0.mk hO
 have HB:=Aside0.mk hB
 have HX:=Aside0.mk hx
 have HR:=Aside0.mk hR
 have HP:=Aside0.mk hp
 have HLN:=Aside0.mk hl
 have HXL:=Aside0.mk hxl
 clear hS hO hB hx hR hp hl hxl hN0
 go_enter Tryz.func114,Tryz.ntmps114
 go_wp2
 go_loopw [1,2] (fun vr vc wr=>∃ (c p:Nat) (ys:List Int),vc=.int .i64 (c:Int)/\c<=cnt/\Aside0 (wr.ownsRow base 5 1 vr ys.length (nums .u8 ys))/\Aside0 (SrcAt wr s g bs p)/\Aside0 (Below base w0 wr)/\Aside0 (base<=wr.heap.size)/\
  Aside0 (alSeg bs p c ys=R)/\Aside0 (p<=8*bs.length)/\Aside0 (ys.length+c<=1100000)/\Aside0 (Grow w wr s (.slice A0 N0 c0) vr)) (fun _ vc _=>(intOf vc).toNat)
 case atStart=>exact⟨cnt,pos,xs,rfl,Nat.le_refl _,HO,HS,HB,⟨hbase⟩,HR,HP,⟨by have:=HXL.out;omega⟩,HGW⟩
 case round=>
  clear HO HS HB HR HP HGW
  obtain⟨c,p,ys,rfl,hcc,HO,HS,HB,HBS,HR,HP,HLEN,HGW⟩:=hrel
  by_cases h3:2<=c
  ·have hr3:=HR.out
   rw [alSeg,if_pos h3] at hr3
   by_cases hroom:p+11<=8*bs.length
   ·have kr:=readBits wr s g p 11 bs HS.out hroom HLN.out (by decide) (by decide) HX.out
    obtain⟨n,hnn⟩:∃ n,rdBits bs p 11=n:=⟨_,rfl⟩
    rw [hnn] at kr hr3
    have hn24:n<2048:=by rw [<- hnn];exact rdBits_lt _ _ _
    obtain⟨q,hqq⟩:∃ q,n/45=q:=⟨_,rfl⟩
    obtain⟨r,hrr⟩:∃ r,n%45=r:=⟨_,rfl⟩
    have hqi:(n:Int)/45=(q:Int):=by omega
    have hri:(n:Int)%45=(r:Int):=by omega
    have hq100:q<100:=by omega
    have hr:r<45:=by omega
    rw [hqq,hrr] at hr3
    by_cases hq:q<45
    ·rw [if_pos ⟨hroom,hq⟩] at hr3
     have HR3:=Aside0.mk hr3
     have HRM:=Aside0.mk hroom
     clear hr3 hroom hnn hqq hrr
     go_wp2_with (first | (go_at_call 107;refine kr.mono ?_;rintro e w' ⟨rfl,hS',hT'⟩;have nG_:=Aside0.mk (HGW.out.turn hT');have nO_:=Aside0.mk (own_turn HO.out HS.out.1 hT');have nB_:=Aside0.mk (HB.out.trans (hT'.below hbs));have nZ_:=Aside0.mk (show base<=w'.heap.size by rw [hT'.size];exact HBS.out);clear HO HS HB HBS HGW;have HO:=nO_;have HS:=Aside0.mk hS';have HB:=nB_;have HBS:=nZ_;have HGW:=nG_;clear nO_ nB_ nZ_ nG_ hS' hT') | (go_at_call 145;first | (with_reducible refine (alChar _ q hq).mono ?_;rintro e w' ⟨rfl,rfl⟩) | (with_reducible refine (alChar _ r hr).mono ?_;rintro e w' ⟨rfl,rfl⟩)) | ((with_reducible refine gate_builtin (b:=.append) (xs:=#[.tmp 43,.tmp 45]) rfl ?_);at_builtin;refine print_append_num (w0:=w0) base rfl (.tmp 43) (.tmp 45) 26 5 .u8 1 rfl Tryz.underlying26 F.info5 (by decide) _ _ _ rfl rfl HO.out HB.out HBS.out ?aL ?_;(case aL=>(have:=HLEN.out;(try simp only [List.length_append,List.length_cons,List.length_nil]);omega));intro v_ w1 ho hb hg hat;have nG_:=Aside0.mk (HGW.out.app hg hat);have nS_:=Aside0.mk (HS.out.grown (base:=base) HO.out hg0 hg);have nB_:=Aside0.mk (Nat.le_trans HBS.out hg.size);have n0_:=Aside0.mk ho;have n1_:=Aside0.mk hb;clear HO HB HS HBS HGW;have HO:=n0_;have HB:=n1_;have HS:=nS_;have HBS:=nB_;have HGW:=nG_;clear n0_ n1_ nS_ nB_ nG_ ho hb hg hat) | ((with_reducible refine gate_builtin (b:=.append) (xs:=#[.tmp 53,.tmp 55]) rfl ?_);at_builtin;refine print_append_num (w0:=w0) base rfl (.tmp 53) (.tmp 55) 26 5 .u8 1 rfl Tryz.underlying26 F.info5 (by decide) _ _ _ rfl rfl HO.out HB.out HBS.out ?aL ?_;(case aL=>(have:=HLEN.out;(try simp only [List.length_append,List.length_cons,List.length_nil]);omega));intro v_ w1 ho hb hg hat;have nG_:=Aside0.mk (HGW.out.app hg hat);have nS_:=Aside0.mk (HS.out.grown (base:=base) HO.out hg0 hg);have nB_:=Aside0.mk (Nat.le_trans HBS.out hg.size);have n0_:=Aside0.mk ho;have n1_:=Aside0.mk hb;clear HO HB HS HBS HGW;have HO:=n0_;have HB:=n1_;have HS:=nS_;have HBS:=nB_;have HGW:=nG_;clear n0_ n1_ nS_ nB_ nG_ ho hb hg hat))
     clear hqi hri
     go_roundw
     case rel=>exact⟨c-2,p+11,_,by go_num,by omega,HO,HS,HB,HBS,HR3,HRM,⟨by have:=HLEN.out;simp only [List.length_append,List.length_cons,List.length_nil];omega⟩,HGW⟩
     case measure=>simp [intOf];omega
    ·rw [if_neg (fun h=>hq h.2)] at hr3
     have HR3:=Aside0.mk hr3
     clear hr3 hroom hnn hqq hrr
     replace hq:45<=q:=by omega
     go_wp2_with (first | (go_at_call 107;refine kr.mono ?_;rintro e w' ⟨rfl,hS',hT'⟩;have nG_:=Aside0.mk (HGW.out.turn hT');have nO_:=Aside0.mk (own_turn HO.out HS.out.1 hT');have nB_:=Aside0.mk (HB.out.trans (hT'.below hbs));have nZ_:=Aside0.mk (show base<=w'.heap.size by rw [hT'.size];exact HBS.out);clear HO HS HB HBS HGW;have HO:=nO_;have HS:=Aside0.mk hS';have HB:=nB_;have HBS:=nZ_;have HGW:=nG_;clear nO_ nB_ nZ_ nG_ hS' hT') | (go_at_call 145;refine (alChar_bad _ q hq (by omega)).mono ?_;rintro e w' ⟨⟨x0,rfl⟩,hb'⟩;have nB_:=Aside0.mk (HB.out.trans (hb'.mono HBS.out));have nZ_:=Aside0.mk (Nat.le_trans HBS.out hb'.size);clear HB HBS;have HB:=nB_;have HBS:=nZ_;clear nB_ nZ_ hb') | (go_at_call 87;refine (wrapFmt _ 208 x0).mono ?_;rintro e w' ⟨⟨y0,rfl⟩,hb'⟩;have nB_:=Aside0.mk (HB.out.trans (hb'.mono HBS.out));clear HB;have HB:=nB_;clear nB_ hb'))
     go_ret2
     exact SegDone.bad HR3.out.symm HB.out
   ·rw [if_neg (fun h=>hroom h.1)] at hr3
    have HR3:=Aside0.mk hr3
    have kb:=readBits_bad wr s g p 11 bs HS.out HP.out (by omega) HLN.out (by decide) (by decide)
    clear hr3 hroom
    go_wp2_with (first | (go_at_call 107;refine kb.mono ?_;rintro e w' ⟨⟨x0,rfl⟩,hb'⟩;have nB_:=Aside0.mk (HB.out.trans (hb'.mono HBS.out));have nZ_:=Aside0.mk (Nat.le_trans HBS.out hb'.size);clear HO HS HB HBS;have HB:=nB_;have HBS:=nZ_;clear nB_ nZ_ hb') | (go_at_call 87;refine (wrapFmt _ 216 x0).mono ?_;rintro e w' ⟨⟨y0,rfl⟩,hb'⟩;have nB_:=Aside0.mk (HB.out.trans (hb'.mono HBS.out));clear HB;have HB:=nB_;clear nB_ hb'))
    go_ret2
    exact SegDone.bad HR3.out.symm HB.out
  ·by_cases h1:c=1
   ·subst h1
    have hr3:=HR.out
    rw [alSeg,if_neg (by decide),if_pos rfl] at hr3
    clear h3
    by_cases hroom:p+6<=8*bs.length
    ·have kr:=readBits wr s g p 6 bs HS.out hroom HLN.out (by decide) (by decide) HX.out
     obtain⟨n,hnn⟩:∃ n,rdBits bs p 6=n:=⟨_,rfl⟩
     rw [hnn] at kr hr3
     have hn24:n<64:=by rw [<- hnn];exact rdBits_lt _ _ _
     by_cases hn:n<45
     ·rw [if_pos ⟨hroom,hn⟩] at hr3
      have HR3:=Aside0.mk hr3
      clear hr3 hroom hnn
      go_wp2_with (first | (go_at_call 107;refine kr.mono ?_;rintro e w' ⟨rfl,hS',hT'⟩;have nG_:=Aside0.mk (HGW.out.turn hT');have nO_:=Aside0.mk (own_turn HO.out HS.out.1 hT');have nB_:=Aside0.mk (HB.out.trans (hT'.below hbs));have nZ_:=Aside0.mk (show base<=w'.heap.size by rw [hT'.size];exact HBS.out);clear HO HS HB HBS HGW;have HO:=nO_;have HS:=Aside0.mk hS';have HB:=nB_;have HBS:=nZ_;have HGW:=nG_;clear nO_ nB_ nZ_ nG_ hS' hT') | (go_at_call 145;refine (alChar _ n hn).mono ?_;rintro e w' ⟨rfl,rfl⟩) | ((with_reducible refine gate_builtin (b:=.append) (xs:=#[.tmp 81,.tmp 83]) rfl ?_);at_builtin;refine print_append_num (w0:=w0) base rfl (.tmp 81) (.tmp 83) 26 5 .u8 1 rfl Tryz.underlying26 F.info5 (by decide) _ _ _ rfl rfl HO.out HB.out HBS.out ?aL ?_;(case aL=>(have:=HLEN.out;(try simp only [List.length_append,List.length_cons,List.length_nil]);omega));intro v_ w1 ho hb hg hat;have nG_:=Aside0.mk (HGW.out.app hg hat);have nS_:=Aside0.mk (HS.out.grown (base:=base) HO.out hg0 hg);have nB_:=Aside0.mk (Nat.le_trans HBS.out hg.size);have n0_:=Aside0.mk ho;have n1_:=Aside0.mk hb;clear HO HB HS HBS HGW;have HO:=n0_;have HB:=n1_;have HS:=nS_;have HBS:=nB_;have HGW:=nG_;clear n0_ n1_ nS_ nB_ nG_ ho hb hg hat))
      go_ret2
      exact SegDone.fine HR3.out.symm HO.out HS.out HB.out HGW.out
     ·rw [if_neg (fun h=>hn h.2)] at hr3
      have HR3:=Aside0.mk hr3
      clear hr3 hroom hnn
      replace hn:45<=n:=by omega
      go_wp2_with (first | (go_at_call 107;refine kr.mono ?_;rintro e w' ⟨rfl,hS',hT'⟩;have nG_:=Aside0.mk (HGW.out.turn hT');have nO_:=Aside0.mk (own_turn HO.out HS.out.1 hT');have nB_:=Aside0.mk (HB.out.trans (hT'.below hbs));have nZ_:=Aside0.mk (show base<=w'.heap.size by rw [hT'.size];exact HBS.out);clear HO HS HB HBS HGW;have HO:=nO_;have HS:=Aside0.mk hS';have HB:=nB_;have HBS:=nZ_;have HGW:=nG_;clear nO_ nB_ nZ_ nG_ hS' hT') | (go_at_call 145;refine (alChar_bad _ n hn (by omega)).mono ?_;rintro e w' ⟨⟨x0,rfl⟩,hb'⟩;have nB_:=Aside0.mk (HB.out.trans (hb'.mono HBS.out));have nZ_:=Aside0.mk (Nat.le_trans HBS.out hb'.size);clear HB HBS;have HB:=nB_;have HBS:=nZ_;clear nB_ nZ_ hb') | (go_at_call 87;refine (wrapFmt _ 208 x0).mono ?_;rintro e w' ⟨⟨y0,rfl⟩,hb'⟩;have nB_:=Aside0.mk (HB.out.trans (hb'.mono HBS.out));clear HB;have HB:=nB_;clear nB_ hb'))
      go_ret2
      exact SegDone.bad HR3.out.symm HB.out
    ·rw [if_neg (fun h=>hroom h.1)] at hr3
     have HR3:=Aside0.mk hr3
     have kb:=readBits_bad wr s g p 6 bs HS.out HP.out (by omega) HLN.out (by decide) (by decide)
     clear hr3 hroom
     go_wp2_with (first | (go_at_call 107;refine kb.mono ?_;rintro e w' ⟨⟨x0,rfl⟩,hb'⟩;have nB_:=Aside0.mk (HB.out.trans (hb'.mono HBS.out));have nZ_:=Aside0.mk (Nat.le_trans HBS.out hb'.size);clear HO HS HB HBS;have HB:=nB_;have HBS:=nZ_;clear nB_ nZ_ hb') | (go_at_call 87;refine (wrapFmt _ 216 x0).mono ?_;rintro e w' ⟨⟨y0,rfl⟩,hb'⟩;have nB_:=Aside0.mk (HB.out.trans (hb'.mono HBS.out));clear HB;have HB:=nB_;clear nB_ hb'))
     go_ret2
     exact SegDone.bad HR3.out.symm HB.out
   ·obtain rfl:c=0:=by omega
    have hr3:=HR.out
    rw [alSeg,if_neg (by decide),if_neg (by decide)] at hr3
    have HR3:=Aside0.mk hr3
    clear h3 h1 hr3
    go_wp2
    go_ret2
    exact SegDone.fine HR3.out.symm HO.out HS.out HB.out HGW.out
structure PMem (w wr:World)(B0 s g:Nat)(bs:List Nat)(pos:Nat)(v11 v12:Value)(out:List Int)(qs:List Nat)(segs:List (List Int)):Prop where
 own:wr.ownsRow B0 5 1 v11 out.length (nums .u8 out)
 segs:SegsAt wr B0 v12 v11 qs segs
 src:SrcAt wr s g bs pos
 bel:Below B0 w wr
 sz:B0<=wr.heap.size
theorem own_under {w w':World}{base size n:Nat}{e:TypeId}{v:Value}{xs:List Value}(h:w.ownsRow base e size v n xs)(hb:Below w.heap.size w w'):w'.ownsRow base e size v n xs:=own_move h fun k hk=>by
 obtain⟨cs,hc⟩:=own_blk h k hk
 exact hb.block k hc.lt
theorem SegsAt.under {w w':World}{base:Nat}{vs v:Value}{qs:List Nat}{segs:List (List Int)}(h:SegsAt w base vs v qs segs)(hb:Below w.heap.size w w'):SegsAt w' base vs v qs segs :=
 ⟨h.len,own_under h.own hb,fun i hi=>by obtain⟨h1,h2,h3⟩:=h.blk i hi;exact⟨h1,h2.below hb h2.lt,h3⟩⟩
theorem PMem.under {w wr w':World}{B0 s g:Nat}{bs:List Nat}{pos:Nat}{v11 v12:Value}{out:List Int}{qs:List Nat}{segs:List (List Int)}(h:PMem w wr B0 s g bs pos v11 v12 out qs segs)(hb:Below wr.heap.size wr w'):PMem w w' B0 s g bs pos v11 v12 out qs segs :=
 ⟨own_under h.own hb,h.segs.under hb,h.src.move (hb.block s h.src.1.lt) (hb.block g h.src.2.lt),h.bel.trans (hb.mono h.sz),Nat.le_trans h.sz hb.size⟩
theorem drawn_under {w w':World}(h:Drawn w w'):Below w.heap.size w w':=by
 obtain⟨n,rfl⟩:=h
 exact pw_below_drewN (Below.refl _ _) n
theorem PMem.turn {w wr w':World}{B0 s g:Nat}{bs:List Nat}{pos pos':Nat}{v11 v12:Value}{out:List Int}{qs:List Nat}{segs:List (List Int)}(h:PMem w wr B0 s g bs pos v11 v12 out qs segs)(hs:SrcAt w' s g bs pos')(ht:Turn wr w' s)(hb:B0<=s):PMem w w' B0 s g bs pos' v11 v12 out qs segs:=by
 refine⟨own_turn h.own h.src.1 ht,⟨h.segs.len,own_move h.segs.own fun k hk=>?_,fun i hi=>?_⟩,hs,h.bel.trans (ht.below hb),by rw [ht.size];exact h.sz⟩
 ·obtain⟨cs,hc⟩:=own_blk h.segs.own k hk
  exact ht.block k (blk_ne hc h.src.1 (by decide))
 ·obtain⟨h1,h2,h3⟩:=h.segs.blk i hi
  exact⟨h1,ht.blk h2 (blk_ne h2 h.src.1 (by decide)),h3⟩
section
variable {w wr:World} {B0 s g:Nat} {bs:List Nat} {pos:Nat} {v11 v12:Value} {out:List Int} {qs:List Nat} {segs:List (List Int)}
theorem leftP {r:Nat}(h:PMem w wr B0 s g bs pos v11 v12 out qs segs)(hp:pos<=8*bs.length)(hl:bs.length<=100000)(hr:8*bs.length-pos=r) :
  Calls Tryz.prog 106 #[.pointer (some ⟨s,0,none⟩)] wr fun e w'=>e=.returned (.int .i64 (r:Int))/\PMem w w' B0 s g bs pos v11 v12 out qs segs:=by
 refine (srcLeft wr s g pos bs h.src hp hl).mono ?_
 rintro e w' ⟨rfl,hd⟩
 exact⟨by rw [hr],h.under (drawn_under hd)⟩
theorem readP {k n:Nat}{y:Int}(h:PMem w wr B0 s g bs pos v11 v12 out qs segs)(hn:rdBits bs pos k=n)(hy:y=(k:Int))(hp:pos+k<=8*bs.length)(hl:bs.length<=100000)(hk:1<=k)(hk2:k<=32)(hx:AllLt 8 bs)(hb:B0<=s) :
  Calls Tryz.prog 107 #[.pointer (some ⟨s,0,none⟩),.int .i64 y] wr fun e w'=>e=.returned (.tuple #[.int .i64 (n:Int),.nilIface])/\PMem w w' B0 s g bs (pos+k) v11 v12 out qs segs:=by
 subst hy
 refine (readBits wr s g pos k bs h.src hp hl hk hk2 hx).mono ?_
 rintro e w' ⟨rfl,hs,ht⟩
 exact⟨by rw [hn],h.turn hs ht hb⟩
theorem readP_bad {k:Nat}(h:PMem w wr B0 s g bs pos v11 v12 out qs segs)(hp:pos<=8*bs.length)(hp2:8*bs.length<pos+k)(hl:bs.length<=100000)(hk:1<=k)(hk2:k<=32) :
  Calls Tryz.prog 107 #[.pointer (some ⟨s,0,none⟩),.int .i64 (k:Int)] wr fun e w'=>(∃ x,e=.returned (.tuple #[.int .i64 0,.iface 216 x]))/\Below B0 w w'/\B0<=w'.heap.size:=by
 refine (readBits_bad wr s g pos k bs h.src hp hp2 hl hk hk2).mono ?_
 rintro e w' ⟨⟨x,rfl⟩,hb⟩
 exact⟨⟨x,rfl⟩,h.bel.trans (hb.mono h.sz),Nat.le_trans h.sz hb.size⟩
theorem wrapP {t:TypeId}{x:Value}(hb:Below B0 w wr)(hz:B0<=wr.heap.size):Calls Tryz.prog 87 #[.iface t x] wr fun e w'=>(∃ y,e=.returned (.iface 208 y))/\Below B0 w w':=by
 refine (wrapFmt wr t x).mono ?_
 rintro e w' ⟨⟨y,rfl⟩,hb'⟩
 exact⟨⟨y,rfl⟩,hb.trans (hb'.mono hz)⟩
theorem cntP {pv v m:Nat}{x:Int}(h:PMem w wr B0 s g bs pos v11 v12 out qs segs){w0:World}(hV:VerAt w0 pv (v:Int) (verRow v))(hw:Below w0.heap.size w0 wr)(hv:1<=v/\v<=40)(hm:m=1\/m=2\/m=4)(hxm:x=(m:Int)) :
  Calls Tryz.prog 111 #[.int .i64 x,.pointer (some ⟨pv,0,none⟩)] wr fun e w'=>e=.returned (.int .i64 (cntBits m v:Int))/\PMem w w' B0 s g bs pos v11 v12 out qs segs:=by
 subst hxm
 refine (cntOf wr pv v m _ (hV.below hw (Nat.le_refl _)) hv hm).mono ?_
 rintro e w' ⟨rfl,hb⟩
 exact⟨rfl,h.under hb⟩
theorem PMem.seg {w':World}{v':Value}{ys:List Int}{p:Nat}(h:PMem w wr B0 s g bs pos v11 v12 out qs segs)(h1:w'.ownsRow B0 5 1 v' ys.length (nums .u8 ys))(h2:SrcAt w' s g bs p)(h3:Below B0 w w')(h4:Grow wr w' s v11 v'):PMem w w' B0 s g bs p v' v12 ys qs segs :=
 ⟨h1,h.segs.grow h.own h.src.1 h4,h2,h3,Nat.le_trans h.sz h4.size⟩
theorem numP {cnt p:Nat}{ys:List Int}(h:PMem w wr B0 s g bs pos v11 v12 out qs segs)(hr:numSeg bs pos cnt out=some (ys,p))(hg:g<B0)(hb:B0<=s)(hx:AllLt 8 bs)(hl:bs.length<=100000)(hc:cnt<=100000)(ho:out.length<=1000000)(hp:pos<=8*bs.length) :
  Calls Tryz.prog 113 #[.pointer (some ⟨s,0,none⟩),v11,.int .i64 (cnt:Int)] wr fun e w'=>∃ v',e=.returned (.tuple #[v',.nilIface])/\PMem w w' B0 s g bs p v' v12 ys qs segs:=by
 refine (numWalk w wr B0 s g pos cnt bs v11 out h.src hg hb h.own h.bel h.sz hx hl hc ho hp).mono ?_
 rw [hr]
 rintro e w' ⟨v',rfl,h1,h2,h3,h4⟩
 exact⟨v',rfl,h.seg h1 h2 h3 h4⟩
theorem numP_bad {cnt:Nat}(h:PMem w wr B0 s g bs pos v11 v12 out qs segs)(hr:numSeg bs pos cnt out=none)(hg:g<B0)(hb:B0<=s)(hx:AllLt 8 bs)(hl:bs.length<=100000)(hc:cnt<=100000)(ho:out.length<=1000000)(hp:pos<=8*bs.length) :
  Calls Tryz.prog 113 #[.pointer (some ⟨s,0,none⟩),v11,.int .i64 (cnt:Int)] wr fun e w'=>∃ v' x,e=.returned (.tuple #[v',.iface 208 x])/\Below B0 w w':=by
 refine (numWalk w wr B0 s g pos cnt bs v11 out h.src hg hb h.own h.bel h.sz hx hl hc ho hp).mono ?_
 rw [hr]
 rintro e w' ⟨v',x,rfl,h1⟩
 exact⟨v',x,rfl,h1⟩
theorem alP {cnt p:Nat}{ys zs:List Int}(fc:Bool)(h:PMem w wr B0 s g bs pos v11 v12 out qs segs)(hr:alSeg bs pos cnt out=some (ys,p))(hz:alOut fc out ys=zs)(hg:g<B0)(hb:B0<=s)(hx:AllLt 8 bs)(hl:bs.length<=100000)(hc:cnt<=100000)(ho:out.length<=1000000)(hp:pos<=8*bs.length) :
  Calls Tryz.prog 114 #[.pointer (some ⟨s,0,none⟩),v11,.int .i64 (cnt:Int),.bool fc] wr fun e w'=>∃ v',e=.returned (.tuple #[v',.nilIface])/\PMem w w' B0 s g bs p v' v12 zs qs segs:=by
 cases fc with
 | false=>
  refine (alWalk w wr B0 s g pos cnt bs v11 out h.src hg hb h.own h.bel h.sz hx hl hc ho hp).mono ?_
  rw [hr]
  rintro e w' ⟨v',rfl,h1,h2,h3,h4⟩
  have:zs=ys:=by rw [<- hz];rfl
  subst this
  exact⟨v',rfl,h.seg h1 h2 h3 h4⟩
 | true=>
  refine (alWalkG w wr B0 s g pos cnt bs v11 out h.src hg hb h.own h.bel h.sz hx hl hc ho hp).mono ?_
  rw [hr]
  rintro e w' ⟨v',rfl,h1,h2,h3,h4⟩
  have:zs=ys.take out.length++gs1 (ys.drop out.length):=by rw [<- hz,alSeg_pre bs _ _ _ _ _ hr];rfl
  subst this
  exact⟨v',rfl,h.seg h1 h2 h3 h4⟩
theorem alP_bad {cnt:Nat}(fc:Bool)(h:PMem w wr B0 s g bs pos v11 v12 out qs segs)(hr:alSeg bs pos cnt out=none)(hg:g<B0)(hb:B0<=s)(hx:AllLt 8 bs)(hl:bs.length<=100000)(hc:cnt<=100000)(ho:out.length<=1000000)(hp:pos<=8*bs.length) :
  Calls Tryz.prog 114 #[.pointer (some ⟨s,0,none⟩),v11,.int .i64 (cnt:Int),.bool fc] wr fun e w'=>∃ v' x,e=.returned (.tuple #[v',.iface 208 x])/\Below B0 w w':=by
 cases fc with
 | false=>
  refine (alWalk w wr B0 s g pos cnt bs v11 out h.src hg hb h.own h.bel h.sz hx hl hc ho hp).mono ?_
  rw [hr]
  rintro e w' ⟨v',x,rfl,h1⟩
  exact⟨v',x,rfl,h1⟩
 | true=>
  refine (alWalkG w wr B0 s g pos cnt bs v11 out h.src hg hb h.own h.bel h.sz hx hl hc ho hp).mono ?_
  rw [hr]
  rintro e w' ⟨v',x,rfl,h1⟩
  exact⟨v',x,rfl,h1⟩
theorem byteP {cnt:Nat}{hint:Value}(h:PMem w wr B0 s g bs pos v11 v12 out qs segs)(hg:g<B0)(hb:B0<=s)(hx:AllLt 8 bs)(hl:bs.length<=100000)(hc:cnt<=100000)(ho:out.length<=1000000)(hs:segs.length<=1000000)(hp:pos+8*cnt<=8*bs.length) :
  Calls Tryz.prog 115 #[.pointer (some ⟨s,0,none⟩),v11,.int .i64 (cnt:Int),.pointer none,v12,hint] wr fun e w'=>∃ v' vs' qs',e=.returned (.tuple #[v',vs',.nilIface])/\PMem w w' B0 s g bs (pos+8*cnt) v' vs' (out++byteSeg bs pos cnt) qs' (segs++[byteSeg bs pos cnt]):=by
 refine (byteWalk w wr B0 s g pos cnt bs v11 v12 hint out qs segs h.src hg hb h.own h.segs h.bel h.sz hx hl hc ho hs hp).mono ?_
 rintro e w' ⟨v',vs',qs',rfl,h1,h2,h3,h4,h5⟩
 exact⟨v',vs',qs',rfl,h1,h2,h3,h4,h5⟩
theorem byteP_bad {cnt:Nat}{hint:Value}(h:PMem w wr B0 s g bs pos v11 v12 out qs segs)(hl:bs.length<=100000)(hp:pos<=8*bs.length)(hp2:8*bs.length<pos+8*cnt)(hc:cnt<=100000) :
  Calls Tryz.prog 115 #[.pointer (some ⟨s,0,none⟩),v11,.int .i64 (cnt:Int),.pointer none,v12,hint] wr fun e w'=>∃ v' vs' x,e=.returned (.tuple #[v',vs',.iface 208 x])/\Below B0 w w':=by
 obtain⟨r,hr⟩:∃ r:Nat,8*bs.length-pos=r:=⟨_,rfl⟩
 have HL:=Aside0.mk (fun (W:World) (hW:PMem w W B0 s g bs pos v11 v12 out qs segs)=>leftP (r:=r) hW hp hl hr)
 have HM:=Aside0.mk h
 have hcr:r<8*cnt:=by omega
 have hdd:decide ((r:Int)<8*(cnt:Int))=true:=decide_eq_true (by omega)
 clear h hl hp hp2 hr
 go_enter Tryz.func115,Tryz.ntmps115
 go_wp2_with (first | (go_at_call 106;refine (HL.out _ HM.out).mono ?_;rintro e w' ⟨rfl,hM'⟩;have nM:=Aside0.mk hM';clear HM hM';have HM:=nM;clear nM) | (go_at_call 89;refine (newFmt _ _).mono ?_;rintro e w' ⟨⟨y0,rfl⟩,hb'⟩;have nB:=Aside0.mk ((HM.out.bel.alloc HM.out.sz _).trans (hb'.mono (by simp;exact Nat.le_succ_of_le HM.out.sz)));clear HM hb'))
 go_ret3
 exact⟨_,_,_,rfl,nB.out⟩
theorem modeL (W:World)(x:Int)(h:x=0\/x=1\/x=2\/x=3\/x=4\/x=5):Calls Tryz.prog 108 #[.int .i64 x] W fun e w'=>e=.returned (.tuple #[.int .i64 x,.nilIface])/\W=w':=by
 obtain⟨n,rfl⟩:∃ n:Nat,x=(n:Int):=⟨x.toNat,by omega⟩
 refine (modeFor W n (by omega)).mono ?_
 rintro e w' ⟨rfl,rfl⟩
 exact⟨rfl,rfl⟩
def cellNat (w:World)(a:Addr):Nat:=match w.cell? a with
 | some (.int _ n)=>n.toNat
 | _=>0
def srcPos (w:World)(s:Nat):Nat:=8*cellNat w ⟨s,1,none⟩+cellNat w ⟨s,2,none⟩
theorem srcPos_at {w:World}{s g pos:Nat}{bs:List Nat}(h:SrcAt w s g bs pos):srcPos w s=pos:=by
 have c1:w.cell? ⟨s,1,none⟩=some (.int .i64 ((pos/8:Nat):Int)):=h.1.cell 1
 have c2:w.cell? ⟨s,2,none⟩=some (.int .i64 ((pos%8:Nat):Int)):=h.1.cell 2
 unfold srcPos cellNat
 rw [c1,c2]
 simp only [Int.toNat_natCast]
 omega
end
theorem cell_up {w wx:World}{a:Addr}{v:Value}(hb:Below w.heap.size w wx)(h:w.cell? a=some v):wx.cell? a=some v:=(hb.cell (World.block_lt_of_cell? _ _ h)).trans h
def tmode (m:Int):Int:=if m%3=0 then 1 else if m%3=1 then 2 else 4
def tbyte (md x:Int):Int:=if md=1 then 48+x%10 else if md=2 then alCh (x%45).toNat else 32+x%95
def tseg (long:Nat)(s:F.S98):F.S98:=⟨tmode s.f0,(s.f1.take long).map (tbyte (tmode s.f0))⟩
theorem tmode_cases (m:Int):tmode m=1\/tmode m=2\/tmode m=4:=by
 unfold tmode
 split
 ·exact .inl rfl
 ·split
  ·exact .inr (.inl rfl)
  ·exact .inr (.inr rfl)
def segsOf (most long:Nat)(l:List F.S98):List F.S98:=(l.take most).map (tseg long)
theorem tmode_idx (m r:Int)(h:r=Int.tmod (Int.tmod m 3+3) 3):r=m%3/\0<=r/\r<3:=by
 have h1:Int.tmod m 3=m%3\/(Int.tmod m 3=m%3-3/\m%3≠0):=by
  by_cases hm:m<0
  ·have:=Int.tmod_eq_emod (a:=m) (b:=3)
   rw [this]
   split<;>omega
  ·left;exact Int.tmod_eq_emod_of_nonneg (by omega)
 have h2:0<=Int.tmod m 3+3:=by omega
 rw [Int.tmod_eq_emod_of_nonneg h2] at h
 omega
theorem own_turn98 {w w':World}{s base n:Nat}{v:Value}{hs:List Value}{cs:Array Value}(hown:w.ownsRow base 5 1 v n hs)(h:Blk w s 98 cs)(ht:Turn w w' s):w'.ownsRow base 5 1 v n hs :=
 own_move hown fun k hk=>ht.block k (by rintro rfl;exact own_ne hown h (by decide) hk.symm)
theorem info98s:(Tryz.prog.info? 98).map (fun i=>(i.zero,i.size,i.bytes))=some (some (.agg #[.int .i64 0,.slice none 0 0]),2,32):=by kernel_rfl
theorem tseg_made {w:World}{base base' n c:Nat}{A:Option Addr}{ys:List Int}(md:Int)(ho:w.ownsRow base 5 1 (.slice A n c) n (nums .u8 ys))(hn:ys.length=n)(hb:base'<=base) :
  F.k98.M w base' (fun k=>(Value.slice A n c).ownBlock=some k) ⟨md,ys⟩ [.int .i64 md,.slice A n c]:=by
 subst hn
 exact F.k98_mkM w base' _ ⟨md,ys⟩ (Kd.R_lower (Kd.R_of_own ho (fun k hk=>hk)) hb)
set_option maxHeartbeats 4000000 in
set_option maxRecDepth 8000 in
theorem seg17 (w:World)(A:Option Addr)(c n most long:Nat)(l:List F.S98)(hl:Kd.C F.k98 w A n l)(hn:l.length=n)(hin:∀ s∈l,SegIn s)(hm:most<=10)(hlg:long<=1000) :
  Calls Tryz.prog 17 #[.slice A n c,.int .i64 (most:Int),.int .i64 (long:Int)] w fun e w'=>∃ v',e=.returned v'/\Kd.R F.k98 98 w' w.heap.size (fun k=>w.heap.size<=k) v' (segsOf most long l)/\Below w.heap.size w w':=by
 have HC:=Aside0.mk hl
 have HN:=Aside0.mk hn
 have HS:=Aside0.mk hin
 have HMO:=Aside0.mk hm
 have HLO:=Aside0.mk hlg
 clear hl hn hin hm hlg
 go_enter Tryz.func17,Tryz.ntmps17
 go_wp2_with fail
 go_loopw [7,15] (fun v7 v15 wr=>∃ i:Nat,v15=.int .i64 (i:Int)/\i<=n/\i<=most/\Aside0 (Kd.R F.k98 98 wr w.heap.size (fun k=>w.heap.size<=k) v7 ((l.take i).map (tseg long)))/\Aside0 (Below w.heap.size w wr)) (fun _ v15 _=>(n-intOf v15).toNat)
 case atStart=>exact⟨0,rfl,Nat.zero_le _,Nat.zero_le _,⟨by rw [List.take_zero];exact Kd.R_nil _ _ _ _ _⟩,⟨Below.refl _ _⟩⟩
 case round=>
  obtain⟨i,rfl,hi,him,HO,HB⟩:=hrel
  obtain⟨wo,hwo⟩:∃ wo,wo=wr:=⟨_,rfl⟩
  subst hwo
  have hi10:i<=10:=by have:=HMO.out;omega
  by_cases hin:i<n
  ·obtain⟨ad,A1,c1,e0,r0,r1,l1,g1⟩:=F.at_T98 HC.out (i:Int) (by omega) (by omega)
   rw [Int.toNat_natCast] at r0 r1
   obtain⟨s,hss⟩:∃ s,F.rd_T98 l i=s:=⟨_,rfl⟩
   rw [hss] at r0 r1 l1 g1
   have hgi:l[i]? = some s:=by
    have hlt:i<l.length:=by rw [HN.out];exact hin
    rw [List.getElem?_eq_getElem hlt,<- hss]
    unfold F.rd_T98
    rw [Int.toNat_natCast,List.getD_eq_getElem?_getD,List.getElem?_eq_getElem hlt]
    rfl
   have hso:=HS.out s (List.mem_of_getElem? hgi)
   have HTK:=Aside0.mk (show (l.take (i+1)).map (tseg long)=(l.take i).map (tseg long)++[tseg long s] by
    rw [List.take_add_one,hgi]
    simp)
   obtain⟨m,hm⟩:∃ m,s.f0=m:=⟨_,rfl⟩
   obtain⟨k,hk⟩:∃ k,s.f1.length=k:=⟨_,rfl⟩
   rw [hm] at r0
   rw [hk] at r1 l1 g1
   subst e0
   replace r0:=cell_up HB.out r0
   replace r1:=cell_up HB.out r1
   have HSO:=Aside0.mk hso
   have HM:=Aside0.mk hm
   have HK:=Aside0.mk hk
   have HG:=Aside0.mk (Kd.C_below g1 HB.out)
   have HLN:=Aside0.mk (show ((l.take i).map (tseg long)).length=i by rw [List.length_map,List.length_take,HN.out];omega)
   obtain⟨out,hout⟩:∃ out,(l.take i).map (tseg long)=out:=⟨_,rfl⟩
   rw [hout] at HO HTK HLN
   have HOU:=Aside0.mk hout
   obtain⟨Ao,co,rfl,ho1,ho2⟩:=Kd.R_reads HO.out
   rw [HLN.out] at HO ho1 ho2 ⊢
   obtain⟨wa,hwa⟩:∃ wa,wa=wo.alloc (.cells #[.int .i64 m,.slice A1 k c1] 98):=⟨_,rfl⟩
   have HWA:=Aside0.mk hwa
   have HBA:=Aside0.mk (show Below w.heap.size w wa by rw [hwa];exact HB.out.alloc HB.out.size _)
   have HSB:=Aside0.mk (show Blk wa wo.heap.size 98 #[.int .i64 m,.slice A1 k c1] by rw [hwa];exact Blk.new _ _ _)
   clear hso hss hgi hm hk hwa g1 hout ho2
   by_cases hmm:i=most
   ·subst hmm
    go_wp2_with fail
    go_ret
    exact⟨_,rfl,by unfold segsOf;rw [HOU.out];exact Kd.R_below HO.out (below_alloc (Below.refl _ _) _),by rw [<- HWA.out];exact HBA.out⟩
   ·have hbf:((i:Int)==(most:Int))=false:=beq_eq_false_iff_ne.2 (by omega)
    have hidx:=tmode_idx m _ rfl
    have HID:=Aside0.mk hidx
    obtain⟨md,hmd⟩:∃ md,tmode m=md:=⟨_,rfl⟩
    have i0:∀ W,(Instr.index 100 (.agg #[.int .i64 1,.int .i64 2,.int .i64 4]) (.int .i64 0)).run Tryz.prog W=.ok (.int .i64 1) W:=fun _=>by kernel_rfl
    have i1:∀ W,(Instr.index 100 (.agg #[.int .i64 1,.int .i64 2,.int .i64 4]) (.int .i64 1)).run Tryz.prog W=.ok (.int .i64 2) W:=fun _=>by kernel_rfl
    have i2:∀ W,(Instr.index 100 (.agg #[.int .i64 1,.int .i64 2,.int .i64 4]) (.int .i64 2)).run Tryz.prog W=.ok (.int .i64 4) W:=fun _=>by kernel_rfl
    have idx:∀ W,(Instr.index 100 (.agg #[.int .i64 1,.int .i64 2,.int .i64 4]) (.int .i64 ((wrap64 (m.tmod 3+3)).tmod 3))).run Tryz.prog W=.ok (.int .i64 md) W:=by
     intro W
     obtain⟨h1,h2,h3⟩:=hidx
     have hw:wrap64 (m.tmod 3+3)=m.tmod 3+3:=by
      have h4:-3<m.tmod 3/\m.tmod 3<3:=by
       have:=Int.tmod_eq_emod (a:=m) (b:=3)
       rw [this]
       split<;>omega
      unfold wrap64;omega
     rw [hw,h1,<- hmd]
     unfold tmode
     have h4:m%3=0\/m%3=1\/m%3=2:=by omega
     rcases h4 with h4 | h4 | h4
     ·rw [h4,if_pos rfl];exact i0 W
     ·rw [h4,if_neg (by decide),if_pos rfl];exact i1 W
     ·rw [h4,if_neg (by decide),if_neg (by decide)];exact i2 W
    have HMD:=Aside0.mk hmd
    have hcs:=tmode_cases m
    rw [hmd] at hcs
    clear hidx hmd i0 i1 i2
    obtain⟨wb,hwb⟩:∃ wb,wb=wa.alloc (.cells #[.int .i64 md,.slice none 0 0] 98):=⟨_,rfl⟩
    have HWB:=Aside0.mk hwb
    obtain⟨p,hp⟩:∃ p,p=wo.heap.size+1:=⟨_,rfl⟩
    have HP:=Aside0.mk hp
    have HPB:=Aside0.mk (show Blk wb p 98 #[.int .i64 md,.slice none 0 0] by have h:=Blk.new wa 98 #[.int .i64 md,.slice none 0 0];rw [show wa.heap.size=wo.heap.size+1 by rw [HWA.out];simp] at h;rw [hwb,hp];exact h)
    have HLB:=Aside0.mk (show Below wo.heap.size wo wb by rw [hwb,HWA.out];exact below_alloc (below_alloc (Below.refl _ _) _) _)
    have HPW:=Aside0.mk (show wo.heap.size<=p by omega)
    have HSB2:=Aside0.mk (show Blk wb wo.heap.size 98 #[.int .i64 m,.slice A1 k c1] by rw [hwb];exact Blk.below HSB.out (below_alloc (Below.refl wa.heap.size wa) _) HSB.out.lt)
    have c0':=HSB2.out.cell 1
    clear hwb hp
    rcases hcs with hcs | hcs | hcs
    ·subst hcs
     go_wp2_with fail
     rw [<- HWA.out,<- HWB.out,<- HP.out]
     clear r0 r1 c0' idx
     go_loopw [34] (fun v34 wq=>∃ (j c2:Nat) (A2:Option Addr),v34=.int .i64 (j:Int)/\j<=k/\j<=long/\Aside0 (Blk wq p 98 #[.int .i64 1,.slice A2 j c2])/\Aside0 (wq.ownsRow wo.heap.size 5 1 (.slice A2 j c2) j (nums .u8 ((s.f1.take j).map (tbyte 1))))/\Aside0 (Below wo.heap.size wo wq)) (fun v34 _=>(k-intOf v34).toNat)
     case atStart=>exact⟨0,0,none,rfl,Nat.zero_le _,Nat.zero_le _,HPB,⟨⟨rfl,.inl ⟨rfl,rfl⟩⟩⟩,HLB⟩
     case round=>
      clear HPB HLB HSB HSB2 HWA HWB HBA
      obtain⟨j,c2,A2,rfl,hj,hjl,HPB,HO2,HLB⟩:=hrel
      have hj9:j<=1000:=by have:=HLO.out;omega
      have b0:=HPB.out.cell 0
      have b1:=HPB.out.cell 1
      have HBQ:=Aside0.mk (HB.out.trans (HLB.out.mono HB.out.size))
      have fin:∀ q:Act->World->Prop,True:=fun _=>trivial
      by_cases hjk:j<k
      ·obtain⟨ax,ea,ra⟩:=ints_at HG.out j hjk
       subst ea
       replace ra:=cell_up HLB.out ra
       obtain⟨x,hx⟩:∃ x,s.f1.getD j 0=x:=⟨_,rfl⟩
       rw [hx] at ra
       have hjs:j<s.f1.length:=by rw [HK.out];exact hjk
       have hxg:s.f1[j]=x:=by rw [<- hx,List.getD_eq_getElem?_getD,List.getElem?_eq_getElem hjs];rfl
       obtain⟨hx0,hx1⟩:=HSO.out.2 x (by rw [<- hxg];exact List.getElem_mem _)
       have HT:=Aside0.mk (show (s.f1.take (j+1)).map (tbyte 1)=(s.f1.take j).map (tbyte 1)++[tbyte 1 x] by rw [List.take_succ_eq_append_getElem hjs,hxg,List.map_append];rfl)
       have HLL:=Aside0.mk (show ((s.f1.take j).map (tbyte 1)).length=j by rw [List.length_map,List.length_take];omega)
       obtain⟨ys,hys⟩:∃ ys,(s.f1.take j).map (tbyte 1)=ys:=⟨_,rfl⟩
       rw [hys] at HO2 HT HLL
       have HYS:=Aside0.mk hys
       clear hx hxg hjs hys
       by_cases hjl2:j=long
       ·subst hjl2
        have HTS:=Aside0.mk (show tseg j s=⟨1,ys⟩ by unfold tseg;rw [HM.out,HMD.out,HYS.out])
        have HO9:=Aside0.mk (Kd.R_below HO.out HLB.out)
        have HNEW:=Aside0.mk (show ∀ k',(Value.slice A2 j c2).ownBlock=some k'->w.heap.size<=k'/\some k'≠(Value.slice Ao i co).ownBlock from fun k' hk'=>⟨Nat.le_trans HB.out.size (own_base HO2.out k' hk'),fun he=>by have h1:=Kd.R_lt HO.out k' he.symm;have h2:=own_base HO2.out k' hk';omega⟩)
        have HMA:=Aside0.mk (tseg_made 1 HO2.out HLL.out HB.out.size)
        go_wp2_with ((with_reducible refine gate_builtin (b:=.append) (xs:=#[.tmp 65,.tmp 67]) rfl ?_);at_builtin;refine Kd.R_append F.k98 (w0:=w) w.heap.size rfl (.tmp 65) (.tmp 67) 38 98 (.agg #[.int .i64 0,.slice none 0 0]) 32 rfl Tryz.underlying38 info98s rfl (by decide) (by decide) (.slice Ao i co) out ⟨1,ys⟩ [.int .i64 1,.slice A2 j c2] (fun k=>w.heap.size<=k) (fun k=>(Value.slice A2 j c2).ownBlock=some k) rfl rfl HMA.out HNEW.out (fun k hk=>Nat.le_trans HBQ.out.size hk) HO9.out HBQ.out HBQ.out.size ?bL ?_;(case bL=>(have:=HLN.out;have:=HMO.out;omega));intro v9 w9 hr9 hb9 hg9 hat9;rw [<- HTS.out,<- HTK.out] at hr9;have HR9:=Aside0.mk hr9;have HB9:=Aside0.mk hb9;clear hr9 hb9 hg9 hat9)
        go_roundw
        case rel=>exact⟨i+1,by go_num,by omega,by omega,HR9,HB9⟩
        case measure=>simp [intOf]<;>omega
       ·obtain⟨y,hy⟩:∃ y,tbyte 1 x=y:=⟨_,rfl⟩
        have hyx:y=(48+x%10):=by rw [<- hy];rfl
        rw [hy] at HT
        clear hy
        have HL1:=Aside0.mk (show (ys++[y]).length=j+1 by rw [List.length_append,HLL.out];rfl)
        skip
        go_wp2_with (first | ((with_reducible refine gate_builtin (b:=.append) (xs:=#[.tmp 59,.tmp 61]) rfl ?_);at_builtin;refine print_append_num (w0:=wo) wo.heap.size rfl (.tmp 59) (.tmp 61) 26 5 .u8 1 rfl Tryz.underlying26 F.info5 (by decide) (.slice A2 j c2) ys (48+x%10) rfl rfl ?aO HLB.out HLB.out.size ?aL ?_;(case aO=>(rw [HLL.out];exact HO2.out));(case aL=>(have:=HLO.out;rw [HLL.out];omega));intro v6 w6 ho6 hb6 hg6 hat6;rw [<- hyx,HL1.out,<- HT.out] at ho6;obtain⟨A6,c6,hv6⟩:=own_slice ho6;subst hv6;have HO6:=Aside0.mk ho6;have HB6:=Aside0.mk hb6;have HP6:=Aside0.mk (show Blk w6 p 98 #[.int .i64 1,.slice A2 j c2] from (hg6.block p HPB.out.lt (own_ne HO2.out HPB.out (by decide))).trans HPB.out);have d1:=HP6.out.cell 1;have f1:=HP6.out.frozen 1;clear ho6 hb6 hg6 hat6))
        clear d1 f1
        obtain⟨w7,hw7⟩:∃ w7,w7=w6.setCell ⟨p,1,none⟩ (.slice A6 (j+1) c6):=⟨_,rfl⟩
        rw [<- hw7]
        have hT7:Turn w6 w7 p:=by rw [hw7];exact Turn.set _ _ _ _
        have HP7:=Aside0.mk (show Blk w7 p 98 #[.int .i64 1,.slice A6 (j+1) c6] by rw [hw7];exact blk_set HP6.out 1 _)
        have HO7:=Aside0.mk (own_turn98 HO6.out HP6.out hT7)
        have HB7:=Aside0.mk (HB6.out.trans (hT7.below HPW.out))
        clear hw7 hT7
        go_roundw
        case rel=>exact⟨j+1,c6,A6,by go_num,by omega,by omega,HP7,HO7,HB7⟩
        case measure=>simp [intOf]<;>omega
      ·have hjk2:j=k:=by omega
       subst hjk2
       have HLL:=Aside0.mk (show ((s.f1.take j).map (tbyte 1)).length=j by rw [List.length_map,List.length_take];have:=HK.out;omega)
       obtain⟨ys,hys⟩:∃ ys,(s.f1.take j).map (tbyte 1)=ys:=⟨_,rfl⟩
       rw [hys] at HO2 HLL
       have HYS:=Aside0.mk hys
       clear hys
       have HTS:=Aside0.mk (show tseg long s=⟨1,ys⟩ by unfold tseg;rw [HM.out,HMD.out,<- HYS.out,List.take_of_length_le (show s.f1.length<=long by rw [HK.out];exact hjl),List.take_of_length_le (show s.f1.length<=j by rw [HK.out];exact Nat.le_refl _)])
       have HO9:=Aside0.mk (Kd.R_below HO.out HLB.out)
       have HNEW:=Aside0.mk (show ∀ k',(Value.slice A2 j c2).ownBlock=some k'->w.heap.size<=k'/\some k'≠(Value.slice Ao i co).ownBlock from fun k' hk'=>⟨Nat.le_trans HB.out.size (own_base HO2.out k' hk'),fun he=>by have h1:=Kd.R_lt HO.out k' he.symm;have h2:=own_base HO2.out k' hk';omega⟩)
       have HMA:=Aside0.mk (tseg_made 1 HO2.out HLL.out HB.out.size)
       go_wp2_with ((with_reducible refine gate_builtin (b:=.append) (xs:=#[.tmp 65,.tmp 67]) rfl ?_);at_builtin;refine Kd.R_append F.k98 (w0:=w) w.heap.size rfl (.tmp 65) (.tmp 67) 38 98 (.agg #[.int .i64 0,.slice none 0 0]) 32 rfl Tryz.underlying38 info98s rfl (by decide) (by decide) (.slice Ao i co) out ⟨1,ys⟩ [.int .i64 1,.slice A2 j c2] (fun k=>w.heap.size<=k) (fun k=>(Value.slice A2 j c2).ownBlock=some k) rfl rfl HMA.out HNEW.out (fun k hk=>Nat.le_trans HBQ.out.size hk) HO9.out HBQ.out HBQ.out.size ?bL ?_;(case bL=>(have:=HLN.out;have:=HMO.out;omega));intro v9 w9 hr9 hb9 hg9 hat9;rw [<- HTS.out,<- HTK.out] at hr9;have HR9:=Aside0.mk hr9;have HB9:=Aside0.mk hb9;clear hr9 hb9 hg9 hat9)
       go_roundw
       case rel=>exact⟨i+1,by go_num,by omega,by omega,HR9,HB9⟩
       case measure=>simp [intOf]<;>omega
    ·subst hcs
     go_wp2_with fail
     rw [<- HWA.out,<- HWB.out,<- HP.out]
     clear r0 r1 c0' idx
     go_loopw [34] (fun v34 wq=>∃ (j c2:Nat) (A2:Option Addr),v34=.int .i64 (j:Int)/\j<=k/\j<=long/\Aside0 (Blk wq p 98 #[.int .i64 2,.slice A2 j c2])/\Aside0 (wq.ownsRow wo.heap.size 5 1 (.slice A2 j c2) j (nums .u8 ((s.f1.take j).map (tbyte 2))))/\Aside0 (Below wo.heap.size wo wq)) (fun v34 _=>(k-intOf v34).toNat)
     case atStart=>exact⟨0,0,none,rfl,Nat.zero_le _,Nat.zero_le _,HPB,⟨⟨rfl,.inl ⟨rfl,rfl⟩⟩⟩,HLB⟩
     case round=>
      clear HPB HLB HSB HSB2 HWA HWB HBA
      obtain⟨j,c2,A2,rfl,hj,hjl,HPB,HO2,HLB⟩:=hrel
      have hj9:j<=1000:=by have:=HLO.out;omega
      have b0:=HPB.out.cell 0
      have b1:=HPB.out.cell 1
      have HBQ:=Aside0.mk (HB.out.trans (HLB.out.mono HB.out.size))
      have fin:∀ q:Act->World->Prop,True:=fun _=>trivial
      by_cases hjk:j<k
      ·obtain⟨ax,ea,ra⟩:=ints_at HG.out j hjk
       subst ea
       replace ra:=cell_up HLB.out ra
       obtain⟨x,hx⟩:∃ x,s.f1.getD j 0=x:=⟨_,rfl⟩
       rw [hx] at ra
       have hjs:j<s.f1.length:=by rw [HK.out];exact hjk
       have hxg:s.f1[j]=x:=by rw [<- hx,List.getD_eq_getElem?_getD,List.getElem?_eq_getElem hjs];rfl
       obtain⟨hx0,hx1⟩:=HSO.out.2 x (by rw [<- hxg];exact List.getElem_mem _)
       have HT:=Aside0.mk (show (s.f1.take (j+1)).map (tbyte 2)=(s.f1.take j).map (tbyte 2)++[tbyte 2 x] by rw [List.take_succ_eq_append_getElem hjs,hxg,List.map_append];rfl)
       have HLL:=Aside0.mk (show ((s.f1.take j).map (tbyte 2)).length=j by rw [List.length_map,List.length_take];omega)
       obtain⟨ys,hys⟩:∃ ys,(s.f1.take j).map (tbyte 2)=ys:=⟨_,rfl⟩
       rw [hys] at HO2 HT HLL
       have HYS:=Aside0.mk hys
       clear hx hxg hjs hys
       by_cases hjl2:j=long
       ·subst hjl2
        have HTS:=Aside0.mk (show tseg j s=⟨2,ys⟩ by unfold tseg;rw [HM.out,HMD.out,HYS.out])
        have HO9:=Aside0.mk (Kd.R_below HO.out HLB.out)
        have HNEW:=Aside0.mk (show ∀ k',(Value.slice A2 j c2).ownBlock=some k'->w.heap.size<=k'/\some k'≠(Value.slice Ao i co).ownBlock from fun k' hk'=>⟨Nat.le_trans HB.out.size (own_base HO2.out k' hk'),fun he=>by have h1:=Kd.R_lt HO.out k' he.symm;have h2:=own_base HO2.out k' hk';omega⟩)
        have HMA:=Aside0.mk (tseg_made 2 HO2.out HLL.out HB.out.size)
        go_wp2_with ((with_reducible refine gate_builtin (b:=.append) (xs:=#[.tmp 65,.tmp 67]) rfl ?_);at_builtin;refine Kd.R_append F.k98 (w0:=w) w.heap.size rfl (.tmp 65) (.tmp 67) 38 98 (.agg #[.int .i64 0,.slice none 0 0]) 32 rfl Tryz.underlying38 info98s rfl (by decide) (by decide) (.slice Ao i co) out ⟨2,ys⟩ [.int .i64 2,.slice A2 j c2] (fun k=>w.heap.size<=k) (fun k=>(Value.slice A2 j c2).ownBlock=some k) rfl rfl HMA.out HNEW.out (fun k hk=>Nat.le_trans HBQ.out.size hk) HO9.out HBQ.out HBQ.out.size ?bL ?_;(case bL=>(have:=HLN.out;have:=HMO.out;omega));intro v9 w9 hr9 hb9 hg9 hat9;rw [<- HTS.out,<- HTK.out] at hr9;have HR9:=Aside0.mk hr9;have HB9:=Aside0.mk hb9;clear hr9 hb9 hg9 hat9)
        go_roundw
        case rel=>exact⟨i+1,by go_num,by omega,by omega,HR9,HB9⟩
        case measure=>simp [intOf]<;>omega
       ·obtain⟨y,hy⟩:∃ y,tbyte 2 x=y:=⟨_,rfl⟩
        have hyx:y=(alCh (x%45).toNat):=by rw [<- hy];rfl
        rw [hy] at HT
        clear hy
        have HL1:=Aside0.mk (show (ys++[y]).length=j+1 by rw [List.length_append,HLL.out];rfl)
        have hx45:x%45=(((x%45).toNat:Nat):Int):=by omega
        have k52:=alphaByte wr (x%45).toNat (by omega)
        rw [<- hx45] at k52
        clear hx45
        go_wp2_with (first | (go_at_call 52;with_reducible (refine k52.mono ?_);rintro e wz ⟨rfl,rfl⟩) | ((with_reducible refine gate_builtin (b:=.append) (xs:=#[.tmp 59,.tmp 61]) rfl ?_);at_builtin;refine print_append_num (w0:=wo) wo.heap.size rfl (.tmp 59) (.tmp 61) 26 5 .u8 1 rfl Tryz.underlying26 F.info5 (by decide) (.slice A2 j c2) ys (alCh (x%45).toNat) rfl rfl ?aO HLB.out HLB.out.size ?aL ?_;(case aO=>(rw [HLL.out];exact HO2.out));(case aL=>(have:=HLO.out;rw [HLL.out];omega));intro v6 w6 ho6 hb6 hg6 hat6;rw [<- hyx,HL1.out,<- HT.out] at ho6;obtain⟨A6,c6,hv6⟩:=own_slice ho6;subst hv6;have HO6:=Aside0.mk ho6;have HB6:=Aside0.mk hb6;have HP6:=Aside0.mk (show Blk w6 p 98 #[.int .i64 2,.slice A2 j c2] from (hg6.block p HPB.out.lt (own_ne HO2.out HPB.out (by decide))).trans HPB.out);have d1:=HP6.out.cell 1;have f1:=HP6.out.frozen 1;clear ho6 hb6 hg6 hat6))
        clear d1 f1
        obtain⟨w7,hw7⟩:∃ w7,w7=w6.setCell ⟨p,1,none⟩ (.slice A6 (j+1) c6):=⟨_,rfl⟩
        rw [<- hw7]
        have hT7:Turn w6 w7 p:=by rw [hw7];exact Turn.set _ _ _ _
        have HP7:=Aside0.mk (show Blk w7 p 98 #[.int .i64 2,.slice A6 (j+1) c6] by rw [hw7];exact blk_set HP6.out 1 _)
        have HO7:=Aside0.mk (own_turn98 HO6.out HP6.out hT7)
        have HB7:=Aside0.mk (HB6.out.trans (hT7.below HPW.out))
        clear hw7 hT7
        go_roundw
        case rel=>exact⟨j+1,c6,A6,by go_num,by omega,by omega,HP7,HO7,HB7⟩
        case measure=>simp [intOf]<;>omega
      ·have hjk2:j=k:=by omega
       subst hjk2
       have HLL:=Aside0.mk (show ((s.f1.take j).map (tbyte 2)).length=j by rw [List.length_map,List.length_take];have:=HK.out;omega)
       obtain⟨ys,hys⟩:∃ ys,(s.f1.take j).map (tbyte 2)=ys:=⟨_,rfl⟩
       rw [hys] at HO2 HLL
       have HYS:=Aside0.mk hys
       clear hys
       have HTS:=Aside0.mk (show tseg long s=⟨2,ys⟩ by unfold tseg;rw [HM.out,HMD.out,<- HYS.out,List.take_of_length_le (show s.f1.length<=long by rw [HK.out];exact hjl),List.take_of_length_le (show s.f1.length<=j by rw [HK.out];exact Nat.le_refl _)])
       have HO9:=Aside0.mk (Kd.R_below HO.out HLB.out)
       have HNEW:=Aside0.mk (show ∀ k',(Value.slice A2 j c2).ownBlock=some k'->w.heap.size<=k'/\some k'≠(Value.slice Ao i co).ownBlock from fun k' hk'=>⟨Nat.le_trans HB.out.size (own_base HO2.out k' hk'),fun he=>by have h1:=Kd.R_lt HO.out k' he.symm;have h2:=own_base HO2.out k' hk';omega⟩)
       have HMA:=Aside0.mk (tseg_made 2 HO2.out HLL.out HB.out.size)
       go_wp2_with ((with_reducible refine gate_builtin (b:=.append) (xs:=#[.tmp 65,.tmp 67]) rfl ?_);at_builtin;refine Kd.R_append F.k98 (w0:=w) w.heap.size rfl (.tmp 65) (.tmp 67) 38 98 (.agg #[.int .i64 0,.slice none 0 0]) 32 rfl Tryz.underlying38 info98s rfl (by decide) (by decide) (.slice Ao i co) out ⟨2,ys⟩ [.int .i64 2,.slice A2 j c2] (fun k=>w.heap.size<=k) (fun k=>(Value.slice A2 j c2).ownBlock=some k) rfl rfl HMA.out HNEW.out (fun k hk=>Nat.le_trans HBQ.out.size hk) HO9.out HBQ.out HBQ.out.size ?bL ?_;(case bL=>(have:=HLN.out;have:=HMO.out;omega));intro v9 w9 hr9 hb9 hg9 hat9;rw [<- HTS.out,<- HTK.out] at hr9;have HR9:=Aside0.mk hr9;have HB9:=Aside0.mk hb9;clear hr9 hb9 hg9 hat9)
       go_roundw
       case rel=>exact⟨i+1,by go_num,by omega,by omega,HR9,HB9⟩
       case measure=>simp [intOf]<;>omega
    ·subst hcs
     go_wp2_with fail
     rw [<- HWA.out,<- HWB.out,<- HP.out]
     clear r0 r1 c0' idx
     go_loopw [34] (fun v34 wq=>∃ (j c2:Nat) (A2:Option Addr),v34=.int .i64 (j:Int)/\j<=k/\j<=long/\Aside0 (Blk wq p 98 #[.int .i64 4,.slice A2 j c2])/\Aside0 (wq.ownsRow wo.heap.size 5 1 (.slice A2 j c2) j (nums .u8 ((s.f1.take j).map (tbyte 4))))/\Aside0 (Below wo.heap.size wo wq)) (fun v34 _=>(k-intOf v34).toNat)
     case atStart=>exact⟨0,0,none,rfl,Nat.zero_le _,Nat.zero_le _,HPB,⟨⟨rfl,.inl ⟨rfl,rfl⟩⟩⟩,HLB⟩
     case round=>
      clear HPB HLB HSB HSB2 HWA HWB HBA
      obtain⟨j,c2,A2,rfl,hj,hjl,HPB,HO2,HLB⟩:=hrel
      have hj9:j<=1000:=by have:=HLO.out;omega
      have b0:=HPB.out.cell 0
      have b1:=HPB.out.cell 1
      have HBQ:=Aside0.mk (HB.out.trans (HLB.out.mono HB.out.size))
      have fin:∀ q:Act->World->Prop,True:=fun _=>trivial
      by_cases hjk:j<k
      ·obtain⟨ax,ea,ra⟩:=ints_at HG.out j hjk
       subst ea
       replace ra:=cell_up HLB.out ra
       obtain⟨x,hx⟩:∃ x,s.f1.getD j 0=x:=⟨_,rfl⟩
       rw [hx] at ra
       have hjs:j<s.f1.length:=by rw [HK.out];exact hjk
       have hxg:s.f1[j]=x:=by rw [<- hx,List.getD_eq_getElem?_getD,List.getElem?_eq_getElem hjs];rfl
       obtain⟨hx0,hx1⟩:=HSO.out.2 x (by rw [<- hxg];exact List.getElem_mem _)
       have HT:=Aside0.mk (show (s.f1.take (j+1)).map (tbyte 4)=(s.f1.take j).map (tbyte 4)++[tbyte 4 x] by rw [List.take_succ_eq_append_getElem hjs,hxg,List.map_append];rfl)
       have HLL:=Aside0.mk (show ((s.f1.take j).map (tbyte 4)).length=j by rw [List.length_map,List.length_take];omega)
       obtain⟨ys,hys⟩:∃ ys,(s.f1.take j).map (tbyte 4)=ys:=⟨_,rfl⟩
       rw [hys] at HO2 HT HLL
       have HYS:=Aside0.mk hys
       clear hx hxg hjs hys
       by_cases hjl2:j=long
       ·subst hjl2
        have HTS:=Aside0.mk (show tseg j s=⟨4,ys⟩ by unfold tseg;rw [HM.out,HMD.out,HYS.out])
        have HO9:=Aside0.mk (Kd.R_below HO.out HLB.out)
        have HNEW:=Aside0.mk (show ∀ k',(Value.slice A2 j c2).ownBlock=some k'->w.heap.size<=k'/\some k'≠(Value.slice Ao i co).ownBlock from fun k' hk'=>⟨Nat.le_trans HB.out.size (own_base HO2.out k' hk'),fun he=>by have h1:=Kd.R_lt HO.out k' he.symm;have h2:=own_base HO2.out k' hk';omega⟩)
        have HMA:=Aside0.mk (tseg_made 4 HO2.out HLL.out HB.out.size)
        go_wp2_with ((with_reducible refine gate_builtin (b:=.append) (xs:=#[.tmp 65,.tmp 67]) rfl ?_);at_builtin;refine Kd.R_append F.k98 (w0:=w) w.heap.size rfl (.tmp 65) (.tmp 67) 38 98 (.agg #[.int .i64 0,.slice none 0 0]) 32 rfl Tryz.underlying38 info98s rfl (by decide) (by decide) (.slice Ao i co) out ⟨4,ys⟩ [.int .i64 4,.slice A2 j c2] (fun k=>w.heap.size<=k) (fun k=>(Value.slice A2 j c2).ownBlock=some k) rfl rfl HMA.out HNEW.out (fun k hk=>Nat.le_trans HBQ.out.size hk) HO9.out HBQ.out HBQ.out.size ?bL ?_;(case bL=>(have:=HLN.out;have:=HMO.out;omega));intro v9 w9 hr9 hb9 hg9 hat9;rw [<- HTS.out,<- HTK.out] at hr9;have HR9:=Aside0.mk hr9;have HB9:=Aside0.mk hb9;clear hr9 hb9 hg9 hat9)
        go_roundw
        case rel=>exact⟨i+1,by go_num,by omega,by omega,HR9,HB9⟩
        case measure=>simp [intOf]<;>omega
       ·obtain⟨y,hy⟩:∃ y,tbyte 4 x=y:=⟨_,rfl⟩
        have hyx:y=(32+x%95):=by rw [<- hy];rfl
        rw [hy] at HT
        clear hy
        have HL1:=Aside0.mk (show (ys++[y]).length=j+1 by rw [List.length_append,HLL.out];rfl)
        skip
        go_wp2_with (first | ((with_reducible refine gate_builtin (b:=.append) (xs:=#[.tmp 59,.tmp 61]) rfl ?_);at_builtin;refine print_append_num (w0:=wo) wo.heap.size rfl (.tmp 59) (.tmp 61) 26 5 .u8 1 rfl Tryz.underlying26 F.info5 (by decide) (.slice A2 j c2) ys (32+x%95) rfl rfl ?aO HLB.out HLB.out.size ?aL ?_;(case aO=>(rw [HLL.out];exact HO2.out));(case aL=>(have:=HLO.out;rw [HLL.out];omega));intro v6 w6 ho6 hb6 hg6 hat6;rw [<- hyx,HL1.out,<- HT.out] at ho6;obtain⟨A6,c6,hv6⟩:=own_slice ho6;subst hv6;have HO6:=Aside0.mk ho6;have HB6:=Aside0.mk hb6;have HP6:=Aside0.mk (show Blk w6 p 98 #[.int .i64 4,.slice A2 j c2] from (hg6.block p HPB.out.lt (own_ne HO2.out HPB.out (by decide))).trans HPB.out);have d1:=HP6.out.cell 1;have f1:=HP6.out.frozen 1;clear ho6 hb6 hg6 hat6))
        clear d1 f1
        obtain⟨w7,hw7⟩:∃ w7,w7=w6.setCell ⟨p,1,none⟩ (.slice A6 (j+1) c6):=⟨_,rfl⟩
        rw [<- hw7]
        have hT7:Turn w6 w7 p:=by rw [hw7];exact Turn.set _ _ _ _
        have HP7:=Aside0.mk (show Blk w7 p 98 #[.int .i64 4,.slice A6 (j+1) c6] by rw [hw7];exact blk_set HP6.out 1 _)
        have HO7:=Aside0.mk (own_turn98 HO6.out HP6.out hT7)
        have HB7:=Aside0.mk (HB6.out.trans (hT7.below HPW.out))
        clear hw7 hT7
        go_roundw
        case rel=>exact⟨j+1,c6,A6,by go_num,by omega,by omega,HP7,HO7,HB7⟩
        case measure=>simp [intOf]<;>omega
      ·have hjk2:j=k:=by omega
       subst hjk2
       have HLL:=Aside0.mk (show ((s.f1.take j).map (tbyte 4)).length=j by rw [List.length_map,List.length_take];have:=HK.out;omega)
       obtain⟨ys,hys⟩:∃ ys,(s.f1.take j).map (tbyte 4)=ys:=⟨_,rfl⟩
       rw [hys] at HO2 HLL
       have HYS:=Aside0.mk hys
       clear hys
       have HTS:=Aside0.mk (show tseg long s=⟨4,ys⟩ by unfold tseg;rw [HM.out,HMD.out,<- HYS.out,List.take_of_length_le (show s.f1.length<=long by rw [HK.out];exact hjl),List.take_of_length_le (show s.f1.length<=j by rw [HK.out];exact Nat.le_refl _)])
       have HO9:=Aside0.mk (Kd.R_below HO.out HLB.out)
       have HNEW:=Aside0.mk (show ∀ k',(Value.slice A2 j c2).ownBlock=some k'->w.heap.size<=k'/\some k'≠(Value.slice Ao i co).ownBlock from fun k' hk'=>⟨Nat.le_trans HB.out.size (own_base HO2.out k' hk'),fun he=>by have h1:=Kd.R_lt HO.out k' he.symm;have h2:=own_base HO2.out k' hk';omega⟩)
       have HMA:=Aside0.mk (tseg_made 4 HO2.out HLL.out HB.out.size)
       go_wp2_with ((with_reducible refine gate_builtin (b:=.append) (xs:=#[.tmp 65,.tmp 67]) rfl ?_);at_builtin;refine Kd.R_append F.k98 (w0:=w) w.heap.size rfl (.tmp 65) (.tmp 67) 38 98 (.agg #[.int .i64 0,.slice none 0 0]) 32 rfl Tryz.underlying38 info98s rfl (by decide) (by decide) (.slice Ao i co) out ⟨4,ys⟩ [.int .i64 4,.slice A2 j c2] (fun k=>w.heap.size<=k) (fun k=>(Value.slice A2 j c2).ownBlock=some k) rfl rfl HMA.out HNEW.out (fun k hk=>Nat.le_trans HBQ.out.size hk) HO9.out HBQ.out HBQ.out.size ?bL ?_;(case bL=>(have:=HLN.out;have:=HMO.out;omega));intro v9 w9 hr9 hb9 hg9 hat9;rw [<- HTS.out,<- HTK.out] at hr9;have HR9:=Aside0.mk hr9;have HB9:=Aside0.mk hb9;clear hr9 hb9 hg9 hat9)
       go_roundw
       case rel=>exact⟨i+1,by go_num,by omega,by omega,HR9,HB9⟩
       case measure=>simp [intOf]<;>omega
  ·have hie:i=n:=by omega
   have HE:=Aside0.mk (show (l.take i).map (tseg long)=segsOf most long l by unfold segsOf;rw [List.take_of_length_le (show l.length<=i by rw [HN.out];omega),List.take_of_length_le (show l.length<=most by rw [HN.out];omega)])
   clear hie
   go_wp2_with fail
   go_ret
   exact⟨_,rfl,by rw [<- HE.out];exact HO.out,HB.out⟩
theorem name53 (w:World)(l:Nat)(hl:l<4):Calls Tryz.prog 53 #[.int .i64 (l:Int)] w fun e w'=>e=.returned (.string (lvName l))/\w=w':=by
 have hc:l=0\/l=1\/l=2\/l=3:=by omega
 rcases hc with rfl | rfl | rfl | rfl
 ·have i0:∀ W,(Instr.index 166 (.agg #[.string ⟨#[77]⟩,.string ⟨#[76]⟩,.string ⟨#[72]⟩,.string ⟨#[81]⟩]) (.int .i64 0)).run Tryz.prog W=.ok (.string (lvName 0)) W:=fun _=>by kernel_rfl
  go_enter Tryz.func53,Tryz.ntmps53
  go_wp2
  go_ret
  exact⟨rfl,rfl⟩
 ·have i0:∀ W,(Instr.index 166 (.agg #[.string ⟨#[77]⟩,.string ⟨#[76]⟩,.string ⟨#[72]⟩,.string ⟨#[81]⟩]) (.int .i64 1)).run Tryz.prog W=.ok (.string (lvName 1)) W:=fun _=>by kernel_rfl
  go_enter Tryz.func53,Tryz.ntmps53
  go_wp2
  go_ret
  exact⟨rfl,rfl⟩
 ·have i0:∀ W,(Instr.index 166 (.agg #[.string ⟨#[77]⟩,.string ⟨#[76]⟩,.string ⟨#[72]⟩,.string ⟨#[81]⟩]) (.int .i64 2)).run Tryz.prog W=.ok (.string (lvName 2)) W:=fun _=>by kernel_rfl
  go_enter Tryz.func53,Tryz.ntmps53
  go_wp2
  go_ret
  exact⟨rfl,rfl⟩
 ·have i0:∀ W,(Instr.index 166 (.agg #[.string ⟨#[77]⟩,.string ⟨#[76]⟩,.string ⟨#[72]⟩,.string ⟨#[81]⟩]) (.int .i64 3)).run Tryz.prog W=.ok (.string (lvName 3)) W:=fun _=>by kernel_rfl
  go_enter Tryz.func53,Tryz.ntmps53
  go_wp2
  go_ret
  exact⟨rfl,rfl⟩
def isAsc (x:Int):Bool:=decide (32<=x/\x<=126)
def ascS (l:List F.S98):Bool:=l.all fun s=>s.f1.all isAsc
def flatS (l:List F.S98):List Int:=l.flatMap fun s=>s.f1
theorem flatS_len (l:List F.S98)(b:Nat)(h:∀ s∈l,s.f1.length<=b):(flatS l).length<=b*l.length:=by
 induction l with
 | nil=>simp [flatS]
 | cons s l ih=>
  have h1:=ih (fun t ht=>h t (by simp [ht]))
  have h2:=h s (by simp)
  unfold flatS at *
  rw [List.flatMap_cons,List.length_append,List.length_cons,Nat.mul_add,Nat.mul_one]
  omega
set_option maxHeartbeats 4000000 in
set_option maxRecDepth 8000 in
theorem said24 (w:World)(A:Option Addr)(c n:Nat)(l:List F.S98)(hl:Kd.C F.k98 w A n l)(hn:l.length=n)(hb:∀ s∈l,s.f1.length<=10000/\∀ x∈s.f1,0<=x/\x<=255)(hn2:n<=10000) :
  Calls Tryz.prog 24 #[.slice A n c] w fun e w'=>e=.returned (if ascS l then .tuple #[.string (strOfNums (flatS l)),.bool true] else .tuple #[.string ⟨#[]⟩,.bool false])/\Below w.heap.size w w':=by
 have HC:=Aside0.mk hl
 have HN:=Aside0.mk hn
 have HS:=Aside0.mk hb
 have HN2:=Aside0.mk hn2
 obtain⟨R,hR⟩:∃ R,R=Ending.returned (if ascS l then .tuple #[.string (strOfNums (flatS l)),.bool true] else .tuple #[.string ⟨#[]⟩,.bool false]):=⟨_,rfl⟩
 rw [<- hR]
 have HR:=Aside0.mk hR
 clear hl hn hb hn2 hR
 go_enter Tryz.func24,Tryz.ntmps24
 go_wp2_with fail
 go_loopw [4,11] (fun v4 v11 wr=>∃ i:Nat,v11=.int .i64 (i:Int)/\i<=n/\Aside0 (wr.ownsRow w.heap.size 5 1 v4 (flatS (l.take i)).length (nums .u8 (flatS (l.take i))))/\Aside0 (Below w.heap.size w wr)/\Aside0 (ascS (l.take i)=true)) (fun _ v11 _=>(n-intOf v11).toNat)
 case atStart=>exact⟨0,rfl,Nat.zero_le _,⟨own_nil' _ _⟩,⟨Below.refl _ _⟩,⟨rfl⟩⟩
 case round=>
  obtain⟨i,rfl,hi,HO,HB,HA⟩:=hrel
  have hi9:i<=10000:=by have:=HN2.out;omega
  by_cases hin:i<n
  ·obtain⟨ad,A1,c1,e0,r0,r1,l1,g1⟩:=F.at_T98 HC.out (i:Int) (by omega) (by omega)
   rw [Int.toNat_natCast] at r0 r1
   obtain⟨s,hss⟩:∃ s,F.rd_T98 l i=s:=⟨_,rfl⟩
   rw [hss] at r0 r1 l1 g1
   have hgi:l[i]? = some s:=by
    have hlt:i<l.length:=by rw [HN.out];exact hin
    rw [List.getElem?_eq_getElem hlt,<- hss]
    unfold F.rd_T98
    rw [Int.toNat_natCast,List.getD_eq_getElem?_getD,List.getElem?_eq_getElem hlt]
    rfl
   have hso:=HS.out s (List.mem_of_getElem? hgi)
   have HGI:=Aside0.mk hgi
   have htk:l.take (i+1)=l.take i++[s]:=by rw [List.take_add_one,hgi];rfl
   have HTF:=Aside0.mk (show flatS (l.take (i+1))=flatS (l.take i)++s.f1 by rw [htk];simp [flatS])
   have HTA:=Aside0.mk (show ascS (l.take (i+1))=(ascS (l.take i) && s.f1.all isAsc) by rw [htk];simp [ascS])
   have HFL:=Aside0.mk (show (flatS (l.take i)).length<=100000000 by
    have h1:=flatS_len (l.take i) 10000 (fun t ht=>(HS.out t (List.mem_of_mem_take ht)).1)
    have h2:(l.take i).length<=10000:=by rw [List.length_take];have:=HN2.out;omega
    have h3:=Nat.mul_le_mul_left 10000 h2
    omega)
   obtain⟨fl,hfl⟩:∃ fl,flatS (l.take i)=fl:=⟨_,rfl⟩
   rw [hfl] at HO HTF HFL
   obtain⟨k,hk⟩:∃ k,s.f1.length=k:=⟨_,rfl⟩
   obtain⟨m,hm⟩:∃ m,s.f0=m:=⟨_,rfl⟩
   rw [hm] at r0
   rw [hk] at r1 l1 g1
   subst e0
   replace r0:=cell_up HB.out r0
   replace r1:=cell_up HB.out r1
   have HSO:=Aside0.mk hso
   have HK:=Aside0.mk hk
   have HG:=Aside0.mk g1
   have hk2:k<=10000:=by rw [<- hk];exact hso.1
   have HBA:=Aside0.mk (HB.out.alloc HB.out.size (.cells #[.int .i64 m,.slice A1 k c1] 98))
   have HOA:=Aside0.mk (own_under HO.out (below_alloc (Below.refl wr.heap.size wr) (.cells #[.int .i64 m,.slice A1 k c1] 98)))
   have HBK:=Aside0.mk (Blk.new wr 98 #[.int .i64 m,.slice A1 k c1])
   obtain⟨wa,hwa⟩:∃ wa,wa=wr.alloc (.cells #[.int .i64 m,.slice A1 k c1] 98):=⟨_,rfl⟩
   rw [<- hwa] at HBA HOA HBK
   have HWA:=Aside0.mk hwa
   have c1':=HBK.out.cell 1
   clear hso hss hgi hm hk hwa g1 hfl htk
   go_wp2_with fail
   rw [<- HWA.out]
   go_wp2_with fail
   clear r0 r1 c1'
   go_loopw [4,18] (fun v4 v18 wq=>∃ j:Nat,v18=.int .i64 (j:Int)/\j<=k/\Aside0 (wq.ownsRow w.heap.size 5 1 v4 (fl++s.f1.take j).length (nums .u8 (fl++s.f1.take j)))/\Aside0 (Below w.heap.size w wq)/\Aside0 ((s.f1.take j).all isAsc=true)) (fun _ v18 _=>(k-intOf v18).toNat)
   case atStart=>exact⟨0,rfl,Nat.zero_le _,⟨by rw [List.take_zero,List.append_nil];exact HOA.out⟩,HBA,⟨rfl⟩⟩
   case round=>
    clear HO HB HBA HOA HBK HWA
    obtain⟨j,rfl,hj,HO,HB,HJ⟩:=hrel
    by_cases hjk:j<k
    ·obtain⟨ax,ea,ra⟩:=ints_at HG.out j hjk
     subst ea
     replace ra:=cell_up HB.out ra
     obtain⟨x,hx⟩:∃ x,s.f1.getD j 0=x:=⟨_,rfl⟩
     rw [hx] at ra
     have hjl:j<s.f1.length:=by rw [HK.out];exact hjk
     have hxg:s.f1[j]=x:=by rw [<- hx,List.getD_eq_getElem?_getD,List.getElem?_eq_getElem hjl];rfl
     have HT:=Aside0.mk (show s.f1.take (j+1)=s.f1.take j++[x] by rw [List.take_succ_eq_append_getElem hjl,hxg])
     have hmem:x∈s.f1:=by rw [<- hxg];exact List.getElem_mem _
     obtain⟨hx0,hx1⟩:=HSO.out.2 x hmem
     have HMEM:=Aside0.mk hmem
     have HLL:=Aside0.mk (show (fl++s.f1.take j).length<=100010000 by rw [List.length_append,List.length_take];have:=HFL.out;omega)
     obtain⟨ys,hys⟩:∃ ys,fl++s.f1.take j=ys:=⟨_,rfl⟩
     have HYS:=Aside0.mk hys
     rw [hys] at HO HLL
     obtain⟨Ao,co,hvo⟩:=own_slice HO.out
     subst hvo
     clear hx hxg hmem hys hjl
     by_cases ha:32<=x/\x<=126
     ·obtain⟨ha1,ha2⟩:=ha
      go_wp2_with (first | ((with_reducible refine gate_builtin (b:=.append) (xs:=#[.tmp 28,.tmp 30]) rfl ?_);at_builtin;refine print_append_num (w0:=w) w.heap.size rfl (.tmp 28) (.tmp 30) 26 5 .u8 1 rfl Tryz.underlying26 F.info5 (by decide) (.slice Ao ys.length co) ys x rfl rfl HO.out HB.out HB.out.size ?aL ?_;(case aL=>(have:=HLL.out;omega));intro v6 w6 ho6 hb6 hg6 hat6;have HO6:=Aside0.mk ho6;have HB6:=Aside0.mk hb6;clear ho6 hb6 hg6 hat6))
      go_roundw
      case rel=>exact⟨j+1,by go_num,by omega,⟨by rw [HT.out,<- List.append_assoc,HYS.out];exact HO6.out⟩,HB6,⟨by rw [HT.out,List.all_append,HJ.out];simp [isAsc,ha1,ha2]⟩⟩
      case measure=>simp [intOf]<;>omega
     ·have hf:ascS l=false:=by
       rw [Bool.eq_false_iff]
       intro h
       unfold ascS at h
       rw [List.all_eq_true] at h
       have h1:=h s (List.mem_of_getElem? HGI.out)
       rw [List.all_eq_true] at h1
       have h2:=h1 x HMEM.out
       unfold isAsc at h2
       exact ha (of_decide_eq_true h2)
      have HF:=Aside0.mk hf
      clear hf
      have hxx:x<32\/(32<=x/\126<x):=by omega
      clear ha
      rcases hxx with hxx | ⟨hx1,hx2⟩
      all_goals
       go_wp2_with fail
       go_ret2
       refine⟨?_,HB.out⟩
       rw [HR.out,HF.out]
       rfl
    ·have:j=k:=by omega
     subst this
     have hta:s.f1.take s.f1.length=s.f1:=List.take_length
     have hO2:=HO.out
     have hJ2:=HJ.out
     rw [<- HK.out,hta] at hO2 hJ2
     have HO3:=Aside0.mk hO2
     have HJ3:=Aside0.mk hJ2
     clear hO2 hJ2 hta
     go_wp2_with fail
     go_roundw
     case rel=>exact⟨i+1,by go_num,by omega,⟨by rw [HTF.out];exact HO3.out⟩,HB,⟨by rw [HTA.out,HA.out,HJ3.out];rfl⟩⟩
     case measure=>simp [intOf]<;>omega
  ·have:i=n:=by omega
   subst this
   have hall:l.take l.length=l:=List.take_length
   have hO2:=HO.out
   have hA2:=HA.out
   rw [<- HN.out,hall] at hO2 hA2
   have HCV:=Aside0.mk (own_string (P:=Tryz.prog) (e':=5) Tryz.underlying26 Tryz.underlying5 Tryz.underlying9 hO2)
   have hcv:=HCV.out
   have HA2:=Aside0.mk hA2
   clear hO2 hA2 hall
   go_wp2_with fail
   go_ret2
   refine⟨?_,HB.out⟩
   rw [HR.out,HA2.out]
   rfl
end Go.Proofs.YtgccjgpdjkhpdaaGreat.B
