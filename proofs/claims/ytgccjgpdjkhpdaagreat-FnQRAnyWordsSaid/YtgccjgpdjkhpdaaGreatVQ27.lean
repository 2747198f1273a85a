import Derived.Deep.RegionLaw
import Derived.Lib.Hide
import Derived.Test.YtgccjgpdjkhpdaaGreatVQ25
/-! Own texts of this claim, part 27. -/
namespace Go.Proofs.YtgccjgpdjkhpdaaGreat.B
open Go.RowKit Go.Proofs.YtgccjgpdjkhpdaaGreatW.PrintWords Go.Proofs.YtgccjgpdjkhpdaaGreatW.PrintLast Go.Proofs.YtgccjgpdjkhpdaaGreatW.PrintMore
set_option linter.unusedVariables false
set_option linter.unusedSimpArgs false
def SegDone (w0 w:World)(v:Value)(base s g:Nat)(bs:List Nat)(r:Option (List Int×Nat))(e:Ending)(w':World):Prop :=
 match r with
 | some (ys,p)=>∃ v',e=.returned (.tuple #[v',.nilIface])/\w'.ownsRow base 5 1 v' ys.length (nums .u8 ys)/\SrcAt w' s g bs p/\Below base w0 w'/\Grow w w' s v v'
 | none=>∃ v x,e=.returned (.tuple #[v,.iface 208 x])/\Below base w0 w'
theorem SegDone.fine {w0 w:World}{v0:Value}{base s g:Nat}{bs:List Nat}{r:Option (List Int×Nat)}{w':World}{v:Value}{ys:List Int}{p:Nat}(hr:r=some (ys,p))(h1:w'.ownsRow base 5 1 v ys.length (nums .u8 ys))(h2:SrcAt w' s g bs p)(h3:Below base w0 w')(h4:Grow w w' s v0 v):SegDone w0 w v0 base s g bs r (.returned (.tuple #[v,.nilIface])) w':=by
 subst hr
 exact⟨v,rfl,h1,h2,h3,h4⟩
theorem SegDone.bad {w0 w:World}{v0:Value}{base s g:Nat}{bs:List Nat}{r:Option (List Int×Nat)}{w':World}{v x:Value}(hr:r=none)(h3:Below base w0 w'):SegDone w0 w v0 base s g bs r (.returned (.tuple #[v,.iface 208 x])) w':=by
 subst hr
 exact⟨v,x,rfl,h3⟩
set_option maxHeartbeats 4000000 in
set_option maxRecDepth 8000 in
theorem numWalk (w0 w:World)(base s g pos cnt:Nat)(bs:List Nat)(v:Value)(xs:List Int)(hS:SrcAt w s g bs pos)(hg0:g<base)(hbs:base<=s)(hO:w.ownsRow base 5 1 v xs.length (nums .u8 xs))(hB:Below base w0 w)(hbase:base<=w.heap.size)
  (hx:AllLt 8 bs) (hl:bs.length<=100000) (hcnt:cnt<=100000) (hxl:xs.length<=1000000) (hp:pos<=8*bs.length) :
  Calls Tryz.prog 113 #[.pointer (some ⟨s,0,none⟩),v,.int .i64 (cnt:Int)] w (SegDone w0 w v base s g bs (numSeg bs pos cnt xs)):=by
 obtain⟨R,hR⟩:∃ R,numSeg bs pos cnt xs=R:=⟨_,rfl⟩
 rw [hR]
 have HGW:=Aside0.mk (Grow.refl w s v)
 have HS:=Aside0.mk hS
 have HO:=Aside0.mk hO
 have HB:=Aside0.mk hB
 have HX:=Aside0.mk hx
 have HR:=Aside0.mk hR
 have HP:=Aside0.mk hp
 have HLN:=Aside0.mk hl
 have HXL:=Aside0.mk hxl
 clear hS hO hB hx hR hp hl hxl
 go_enter Tryz.func113,Tryz.ntmps113
 go_wp2
 go_loopw [1,2] (fun vr vc wr=>∃ (c p:Nat) (ys:List Int),vc=.int .i64 (c:Int)/\c<=cnt/\Aside0 (wr.ownsRow base 5 1 vr ys.length (nums .u8 ys))/\Aside0 (SrcAt wr s g bs p)/\Aside0 (Below base w0 wr)/\Aside0 (base<=wr.heap.size)/\
  Aside0 (numSeg bs p c ys=R)/\Aside0 (p<=8*bs.length)/\Aside0 (ys.length+c<=1100000)/\Aside0 (Grow w wr s v vr)) (fun _ vc _=>(intOf vc).toNat)
 case atStart=>exact⟨cnt,pos,xs,rfl,Nat.le_refl _,HO,HS,HB,⟨hbase⟩,HR,HP,⟨by have:=HXL.out;omega⟩,HGW⟩
 case round=>
  clear HO HS HB HR HP HGW
  obtain⟨c,p,ys,rfl,hcc,HO,HS,HB,HBS,HR,HP,HLEN,HGW⟩:=hrel
  by_cases h3:3<=c
  ·have hr3:=HR.out
   rw [numSeg,if_pos h3] at hr3
   by_cases hroom:p+10<=8*bs.length
   ·have kr:=readBits wr s g p 10 bs HS.out hroom HLN.out (by decide) (by decide) HX.out
    obtain⟨n,hnn⟩:∃ n,rdBits bs p 10=n:=⟨_,rfl⟩
    rw [hnn] at kr hr3
    have hn24:n<1024:=by rw [<- hnn];exact rdBits_lt _ _ _
    by_cases hn:n<1000
    ·rw [if_pos ⟨hroom,hn⟩] at hr3
     have HR3:=Aside0.mk hr3
     have HRM:=Aside0.mk hroom
     clear hr3 hroom hnn
     go_wp2_with (first | (go_at_call 107;refine kr.mono ?_;rintro e w' ⟨rfl,hS',hT'⟩;have nG_:=Aside0.mk (HGW.out.turn hT');have nO_:=Aside0.mk (own_turn HO.out HS.out.1 hT');have nB_:=Aside0.mk (HB.out.trans (hT'.below hbs));have nZ_:=Aside0.mk (show base<=w'.heap.size by rw [hT'.size];exact HBS.out);clear HO HS HB HBS HGW;have HO:=nO_;have HS:=Aside0.mk hS';have HB:=nB_;have HBS:=nZ_;have HGW:=nG_;clear nO_ nB_ nZ_ nG_ hS' hT') | ((with_reducible refine gate_builtin (b:=.append) (xs:=#[.tmp 34,.tmp 39]) rfl ?_);at_builtin;refine print_append_num (w0:=w0) base rfl (.tmp 34) (.tmp 39) 26 5 .u8 1 rfl Tryz.underlying26 F.info5 (by decide) _ _ _ rfl rfl HO.out HB.out HBS.out ?aL ?_;(case aL=>(have:=HLEN.out;(try simp only [List.length_append,List.length_cons,List.length_nil]);omega));intro v_ w1 ho hb hg hat;have nG_:=Aside0.mk (HGW.out.app hg hat);have nS_:=Aside0.mk (HS.out.grown (base:=base) HO.out hg0 hg);have nB_:=Aside0.mk (Nat.le_trans HBS.out hg.size);have n0_:=Aside0.mk ho;have n1_:=Aside0.mk hb;clear HO HB HS HBS HGW;have HO:=n0_;have HB:=n1_;have HS:=nS_;have HBS:=nB_;have HGW:=nG_;clear n0_ n1_ nS_ nB_ nG_ ho hb hg hat) | ((with_reducible refine gate_builtin (b:=.append) (xs:=#[.tmp 41,.tmp 47]) rfl ?_);at_builtin;refine print_append_num (w0:=w0) base rfl (.tmp 41) (.tmp 47) 26 5 .u8 1 rfl Tryz.underlying26 F.info5 (by decide) _ _ _ rfl rfl HO.out HB.out HBS.out ?aL ?_;(case aL=>(have:=HLEN.out;(try simp only [List.length_append,List.length_cons,List.length_nil]);omega));intro v_ w1 ho hb hg hat;have nG_:=Aside0.mk (HGW.out.app hg hat);have nS_:=Aside0.mk (HS.out.grown (base:=base) HO.out hg0 hg);have nB_:=Aside0.mk (Nat.le_trans HBS.out hg.size);have n0_:=Aside0.mk ho;have n1_:=Aside0.mk hb;clear HO HB HS HBS HGW;have HO:=n0_;have HB:=n1_;have HS:=nS_;have HBS:=nB_;have HGW:=nG_;clear n0_ n1_ nS_ nB_ nG_ ho hb hg hat) | ((with_reducible refine gate_builtin (b:=.append) (xs:=#[.tmp 49,.tmp 54]) rfl ?_);at_builtin;refine print_append_num (w0:=w0) base rfl (.tmp 49) (.tmp 54) 26 5 .u8 1 rfl Tryz.underlying26 F.info5 (by decide) _ _ _ rfl rfl HO.out HB.out HBS.out ?aL ?_;(case aL=>(have:=HLEN.out;(try simp only [List.length_append,List.length_cons,List.length_nil]);omega));intro v_ w1 ho hb hg hat;have nG_:=Aside0.mk (HGW.out.app hg hat);have nS_:=Aside0.mk (HS.out.grown (base:=base) HO.out hg0 hg);have nB_:=Aside0.mk (Nat.le_trans HBS.out hg.size);have n0_:=Aside0.mk ho;have n1_:=Aside0.mk hb;clear HO HB HS HBS HGW;have HO:=n0_;have HB:=n1_;have HS:=nS_;have HBS:=nB_;have HGW:=nG_;clear n0_ n1_ nS_ nB_ nG_ ho hb hg hat))
     go_roundw
     case rel=>exact⟨c-3,p+10,_,by go_num,by omega,HO,HS,HB,HBS,⟨by have:=HR3.out;simpa using this⟩,HRM,⟨by have:=HLEN.out;simp only [List.length_append,List.length_cons,List.length_nil];omega⟩,HGW⟩
     case measure=>simp [intOf];omega
    ·rw [if_neg (fun h=>hn h.2)] at hr3
     have HR3:=Aside0.mk hr3
     clear hr3 hroom hnn
     go_wp2_with (first | (go_at_call 107;refine kr.mono ?_;rintro e w' ⟨rfl,hS',hT'⟩;have nG_:=Aside0.mk (HGW.out.turn hT');have nO_:=Aside0.mk (own_turn HO.out HS.out.1 hT');have nB_:=Aside0.mk (HB.out.trans (hT'.below hbs));have nZ_:=Aside0.mk (show base<=w'.heap.size by rw [hT'.size];exact HBS.out);clear HO HS HB HBS HGW;have HO:=nO_;have HS:=Aside0.mk hS';have HB:=nB_;have HBS:=nZ_;have HGW:=nG_;clear nO_ nB_ nZ_ nG_ hS' hT') | (go_at_call 89;refine (newFmt _ _).mono ?_;rintro e w' ⟨⟨y0,rfl⟩,hb'⟩;have nB_:=Aside0.mk ((HB.out.alloc HBS.out _).trans (hb'.mono (by simp;exact Nat.le_succ_of_le HBS.out)));clear HB;have HB:=nB_;clear nB_ hb'))
     go_ret2
     exact SegDone.bad HR3.out.symm HB.out
   ·rw [if_neg (fun h=>hroom h.1)] at hr3
    have HR3:=Aside0.mk hr3
    have kb:=readBits_bad wr s g p 10 bs HS.out HP.out (by omega) HLN.out (by decide) (by decide)
    clear hr3 hroom
    go_wp2_with (first | (go_at_call 107;refine kb.mono ?_;rintro e w' ⟨⟨x0,rfl⟩,hb'⟩;have nB_:=Aside0.mk (HB.out.trans (hb'.mono HBS.out));have nZ_:=Aside0.mk (Nat.le_trans HBS.out hb'.size);clear HO HS HB HBS;have HB:=nB_;have HBS:=nZ_;clear nB_ nZ_ hb') | (go_at_call 87;refine (wrapFmt _ 216 x0).mono ?_;rintro e w' ⟨⟨y0,rfl⟩,hb'⟩;have nB_:=Aside0.mk (HB.out.trans (hb'.mono HBS.out));clear HB;have HB:=nB_;clear nB_ hb'))
    go_ret2
    exact SegDone.bad HR3.out.symm HB.out
  ·by_cases h2:c=2
   ·subst h2
    have hr3:=HR.out
    rw [numSeg,if_neg (by decide),if_pos rfl] at hr3
    clear h3
    by_cases hroom:p+7<=8*bs.length
    ·have kr:=readBits wr s g p 7 bs HS.out hroom HLN.out (by decide) (by decide) HX.out
     obtain⟨n,hnn⟩:∃ n,rdBits bs p 7=n:=⟨_,rfl⟩
     rw [hnn] at kr hr3
     have hn24:n<128:=by rw [<- hnn];exact rdBits_lt _ _ _
     by_cases hn:n<100
     ·rw [if_pos ⟨hroom,hn⟩] at hr3
      have HR3:=Aside0.mk hr3
      clear hr3 hroom hnn
      go_wp2_with (first | (go_at_call 107;refine kr.mono ?_;rintro e w' ⟨rfl,hS',hT'⟩;have nG_:=Aside0.mk (HGW.out.turn hT');have nO_:=Aside0.mk (own_turn HO.out HS.out.1 hT');have nB_:=Aside0.mk (HB.out.trans (hT'.below hbs));have nZ_:=Aside0.mk (show base<=w'.heap.size by rw [hT'.size];exact HBS.out);clear HO HS HB HBS HGW;have HO:=nO_;have HS:=Aside0.mk hS';have HB:=nB_;have HBS:=nZ_;have HGW:=nG_;clear nO_ nB_ nZ_ nG_ hS' hT') | ((with_reducible refine gate_builtin (b:=.append) (xs:=#[.tmp 78,.tmp 83]) rfl ?_);at_builtin;refine print_append_num (w0:=w0) base rfl (.tmp 78) (.tmp 83) 26 5 .u8 1 rfl Tryz.underlying26 F.info5 (by decide) _ _ _ rfl rfl HO.out HB.out HBS.out ?aL ?_;(case aL=>(have:=HLEN.out;(try simp only [List.length_append,List.length_cons,List.length_nil]);omega));intro v_ w1 ho hb hg hat;have nG_:=Aside0.mk (HGW.out.app hg hat);have nS_:=Aside0.mk (HS.out.grown (base:=base) HO.out hg0 hg);have nB_:=Aside0.mk (Nat.le_trans HBS.out hg.size);have n0_:=Aside0.mk ho;have n1_:=Aside0.mk hb;clear HO HB HS HBS HGW;have HO:=n0_;have HB:=n1_;have HS:=nS_;have HBS:=nB_;have HGW:=nG_;clear n0_ n1_ nS_ nB_ nG_ ho hb hg hat) | ((with_reducible refine gate_builtin (b:=.append) (xs:=#[.tmp 85,.tmp 90]) rfl ?_);at_builtin;refine print_append_num (w0:=w0) base rfl (.tmp 85) (.tmp 90) 26 5 .u8 1 rfl Tryz.underlying26 F.info5 (by decide) _ _ _ rfl rfl HO.out HB.out HBS.out ?aL ?_;(case aL=>(have:=HLEN.out;(try simp only [List.length_append,List.length_cons,List.length_nil]);omega));intro v_ w1 ho hb hg hat;have nG_:=Aside0.mk (HGW.out.app hg hat);have nS_:=Aside0.mk (HS.out.grown (base:=base) HO.out hg0 hg);have nB_:=Aside0.mk (Nat.le_trans HBS.out hg.size);have n0_:=Aside0.mk ho;have n1_:=Aside0.mk hb;clear HO HB HS HBS HGW;have HO:=n0_;have HB:=n1_;have HS:=nS_;have HBS:=nB_;have HGW:=nG_;clear n0_ n1_ nS_ nB_ nG_ ho hb hg hat))
      go_ret2
      exact SegDone.fine (by rw [<- HR3.out];simp) HO.out HS.out HB.out HGW.out
     ·rw [if_neg (fun h=>hn h.2)] at hr3
      have HR3:=Aside0.mk hr3
      clear hr3 hroom hnn
      go_wp2_with (first | (go_at_call 107;refine kr.mono ?_;rintro e w' ⟨rfl,hS',hT'⟩;have nG_:=Aside0.mk (HGW.out.turn hT');have nO_:=Aside0.mk (own_turn HO.out HS.out.1 hT');have nB_:=Aside0.mk (HB.out.trans (hT'.below hbs));have nZ_:=Aside0.mk (show base<=w'.heap.size by rw [hT'.size];exact HBS.out);clear HO HS HB HBS HGW;have HO:=nO_;have HS:=Aside0.mk hS';have HB:=nB_;have HBS:=nZ_;have HGW:=nG_;clear nO_ nB_ nZ_ nG_ hS' hT') | (go_at_call 89;refine (newFmt _ _).mono ?_;rintro e w' ⟨⟨y0,rfl⟩,hb'⟩;have nB_:=Aside0.mk ((HB.out.alloc HBS.out _).trans (hb'.mono (by simp;exact Nat.le_succ_of_le HBS.out)));clear HB;have HB:=nB_;clear nB_ hb'))
      go_ret2
      exact SegDone.bad HR3.out.symm HB.out
    ·rw [if_neg (fun h=>hroom h.1)] at hr3
     have HR3:=Aside0.mk hr3
     have kb:=readBits_bad wr s g p 7 bs HS.out HP.out (by omega) HLN.out (by decide) (by decide)
     clear hr3 hroom
     go_wp2_with (first | (go_at_call 107;refine kb.mono ?_;rintro e w' ⟨⟨x0,rfl⟩,hb'⟩;have nB_:=Aside0.mk (HB.out.trans (hb'.mono HBS.out));have nZ_:=Aside0.mk (Nat.le_trans HBS.out hb'.size);clear HO HS HB HBS;have HB:=nB_;have HBS:=nZ_;clear nB_ nZ_ hb') | (go_at_call 87;refine (wrapFmt _ 216 x0).mono ?_;rintro e w' ⟨⟨y0,rfl⟩,hb'⟩;have nB_:=Aside0.mk (HB.out.trans (hb'.mono HBS.out));clear HB;have HB:=nB_;clear nB_ hb'))
     go_ret2
     exact SegDone.bad HR3.out.symm HB.out
   ·by_cases h1:c=1
    ·subst h1
     have hr3:=HR.out
     rw [numSeg,if_neg (by decide),if_neg (by decide),if_pos rfl] at hr3
     clear h3 h2
     by_cases hroom:p+4<=8*bs.length
     ·have kr:=readBits wr s g p 4 bs HS.out hroom HLN.out (by decide) (by decide) HX.out
      obtain⟨n,hnn⟩:∃ n,rdBits bs p 4=n:=⟨_,rfl⟩
      rw [hnn] at kr hr3
      have hn24:n<16:=by rw [<- hnn];exact rdBits_lt _ _ _
      by_cases hn:n<10
      ·rw [if_pos ⟨hroom,hn⟩] at hr3
       have HR3:=Aside0.mk hr3
       clear hr3 hroom hnn
       go_wp2_with (first | (go_at_call 107;refine kr.mono ?_;rintro e w' ⟨rfl,hS',hT'⟩;have nG_:=Aside0.mk (HGW.out.turn hT');have nO_:=Aside0.mk (own_turn HO.out HS.out.1 hT');have nB_:=Aside0.mk (HB.out.trans (hT'.below hbs));have nZ_:=Aside0.mk (show base<=w'.heap.size by rw [hT'.size];exact HBS.out);clear HO HS HB HBS HGW;have HO:=nO_;have HS:=Aside0.mk hS';have HB:=nB_;have HBS:=nZ_;have HGW:=nG_;clear nO_ nB_ nZ_ nG_ hS' hT') | ((with_reducible refine gate_builtin (b:=.append) (xs:=#[.tmp 112,.tmp 116]) rfl ?_);at_builtin;refine print_append_num (w0:=w0) base rfl (.tmp 112) (.tmp 116) 26 5 .u8 1 rfl Tryz.underlying26 F.info5 (by decide) _ _ _ rfl rfl HO.out HB.out HBS.out ?aL ?_;(case aL=>(have:=HLEN.out;(try simp only [List.length_append,List.length_cons,List.length_nil]);omega));intro v_ w1 ho hb hg hat;have nG_:=Aside0.mk (HGW.out.app hg hat);have nS_:=Aside0.mk (HS.out.grown (base:=base) HO.out hg0 hg);have nB_:=Aside0.mk (Nat.le_trans HBS.out hg.size);have n0_:=Aside0.mk ho;have n1_:=Aside0.mk hb;clear HO HB HS HBS HGW;have HO:=n0_;have HB:=n1_;have HS:=nS_;have HBS:=nB_;have HGW:=nG_;clear n0_ n1_ nS_ nB_ nG_ ho hb hg hat))
       go_ret2
       exact SegDone.fine (by rw [<- HR3.out]) HO.out HS.out HB.out HGW.out
      ·rw [if_neg (fun h=>hn h.2)] at hr3
       have HR3:=Aside0.mk hr3
       clear hr3 hroom hnn
       go_wp2_with (first | (go_at_call 107;refine kr.mono ?_;rintro e w' ⟨rfl,hS',hT'⟩;have nG_:=Aside0.mk (HGW.out.turn hT');have nO_:=Aside0.mk (own_turn HO.out HS.out.1 hT');have nB_:=Aside0.mk (HB.out.trans (hT'.below hbs));have nZ_:=Aside0.mk (show base<=w'.heap.size by rw [hT'.size];exact HBS.out);clear HO HS HB HBS HGW;have HO:=nO_;have HS:=Aside0.mk hS';have HB:=nB_;have HBS:=nZ_;have HGW:=nG_;clear nO_ nB_ nZ_ nG_ hS' hT') | (go_at_call 89;refine (newFmt _ _).mono ?_;rintro e w' ⟨⟨y0,rfl⟩,hb'⟩;have nB_:=Aside0.mk ((HB.out.alloc HBS.out _).trans (hb'.mono (by simp;exact Nat.le_succ_of_le HBS.out)));clear HB;have HB:=nB_;clear nB_ hb'))
       go_ret2
       exact SegDone.bad HR3.out.symm HB.out
     ·rw [if_neg (fun h=>hroom h.1)] at hr3
      have HR3:=Aside0.mk hr3
      have kb:=readBits_bad wr s g p 4 bs HS.out HP.out (by omega) HLN.out (by decide) (by decide)
      clear hr3 hroom
      go_wp2_with (first | (go_at_call 107;refine kb.mono ?_;rintro e w' ⟨⟨x0,rfl⟩,hb'⟩;have nB_:=Aside0.mk (HB.out.trans (hb'.mono HBS.out));have nZ_:=Aside0.mk (Nat.le_trans HBS.out hb'.size);clear HO HS HB HBS;have HB:=nB_;have HBS:=nZ_;clear nB_ nZ_ hb') | (go_at_call 87;refine (wrapFmt _ 216 x0).mono ?_;rintro e w' ⟨⟨y0,rfl⟩,hb'⟩;have nB_:=Aside0.mk (HB.out.trans (hb'.mono HBS.out));clear HB;have HB:=nB_;clear nB_ hb'))
      go_ret2
      exact SegDone.bad HR3.out.symm HB.out
    ·obtain rfl:c=0:=by omega
     have hr3:=HR.out
     rw [numSeg,if_neg (by decide),if_neg (by decide),if_neg (by decide)] at hr3
     have HR3:=Aside0.mk hr3
     clear h3 h2 h1 hr3
     go_wp2
     go_ret2
     exact SegDone.fine HR3.out.symm HO.out HS.out HB.out HGW.out
set_option maxHeartbeats 4000000 in
set_option maxRecDepth 8000 in
theorem alWalkG (w0 w:World)(base s g pos cnt:Nat)(bs:List Nat)(v:Value)(xs:List Int)(hS:SrcAt w s g bs pos)(hg0:g<base)(hbs:base<=s)(hO:w.ownsRow base 5 1 v xs.length (nums .u8 xs))(hB:Below base w0 w)(hbase:base<=w.heap.size)
  (hx:AllLt 8 bs) (hl:bs.length<=100000) (hcnt:cnt<=100000) (hxl:xs.length<=1000000) (hp:pos<=8*bs.length) :
  Calls Tryz.prog 114 #[.pointer (some ⟨s,0,none⟩),v,.int .i64 (cnt:Int),.bool true] w (SegDone w0 w v base s g bs ((alSeg bs pos cnt xs).map fun r=>(r.1.take xs.length++gs1 (r.1.drop xs.length),r.2))):=by
 obtain⟨R,hR⟩:∃ R,alSeg bs pos cnt xs=R:=⟨_,rfl⟩
 rw [hR]
 obtain⟨A0,c0,hv⟩:=own_slice hO
 obtain⟨N0,hN0⟩:∃ N0,xs.length=N0:=⟨_,rfl⟩
 rw [hN0] at hv ⊢
 subst hv
 have HGW:=Aside0.mk (Grow.refl w s (.slice A0 N0 c0))
 have HS:=Aside0.mk hS
 have HO:=Aside0.mk hO
 have HB:=Aside0.mk hB
 have HX:=Aside0.mk hx
 have HR:=Aside0.mk hR
 have HP:=Aside0.mk hp
 have HLN:=Aside0.mk hl
 have HXL:=Aside0.mk hxl
 have HNY:=Aside0.mk (show N0<=xs.length by omega)
 clear hS hO hB hx hR hp hl hxl hN0
 go_enter Tryz.func114,Tryz.ntmps114
 go_wp2
 go_loopw [1,2] (fun vr vc wr=>∃ (c p:Nat) (ys:List Int),vc=.int .i64 (c:Int)/\c<=cnt/\Aside0 (wr.ownsRow base 5 1 vr ys.length (nums .u8 ys))/\Aside0 (SrcAt wr s g bs p)/\Aside0 (Below base w0 wr)/\Aside0 (base<=wr.heap.size)/\
  Aside0 (alSeg bs p c ys=R)/\Aside0 (p<=8*bs.length)/\Aside0 (ys.length+c<=1100000)/\Aside0 (N0<=ys.length)/\Aside0 (Grow w wr s (.slice A0 N0 c0) vr)) (fun _ vc _=>(intOf vc).toNat)
 case atStart=>exact⟨cnt,pos,xs,rfl,Nat.le_refl _,HO,HS,HB,⟨hbase⟩,HR,HP,⟨by have:=HXL.out;omega⟩,HNY,HGW⟩
 case round=>
  clear HO HS HB HR HP HGW HNY
  obtain⟨c,p,ys,rfl,hcc,HO,HS,HB,HBS,HR,HP,HLEN,HNY,HGW⟩:=hrel
  by_cases h3:2<=c
  ·have hr3:=HR.out
   rw [alSeg,if_pos h3] at hr3
   by_cases hroom:p+11<=8*bs.length
   ·have kr:=readBits wr s g p 11 bs HS.out hroom HLN.out (by decide) (by decide) HX.out
    obtain⟨n,hnn⟩:∃ n,rdBits bs p 11=n:=⟨_,rfl⟩
    rw [hnn] at kr hr3
    have hn24:n<2048:=by rw [<- hnn];exact rdBits_lt _ _ _
    obtain⟨q,hqq⟩:∃ q,n/45=q:=⟨_,rfl⟩
    obtain⟨r,hrr⟩:∃ r,n%45=r:=⟨_,rfl⟩
    have hqi:(n:Int)/45=(q:Int):=by omega
    have hri:(n:Int)%45=(r:Int):=by omega
    have hq100:q<100:=by omega
    have hr:r<45:=by omega
    rw [hqq,hrr] at hr3
    by_cases hq:q<45
    ·rw [if_pos ⟨hroom,hq⟩] at hr3
     have HR3:=Aside0.mk hr3
     have HRM:=Aside0.mk hroom
     clear hr3 hroom hnn hqq hrr
     go_wp2_with (first | (go_at_call 107;refine kr.mono ?_;rintro e w' ⟨rfl,hS',hT'⟩;have nG_:=Aside0.mk (HGW.out.turn hT');have nO_:=Aside0.mk (own_turn HO.out HS.out.1 hT');have nB_:=Aside0.mk (HB.out.trans (hT'.below hbs));have nZ_:=Aside0.mk (show base<=w'.heap.size by rw [hT'.size];exact HBS.out);clear HO HS HB HBS HGW;have HO:=nO_;have HS:=Aside0.mk hS';have HB:=nB_;have HBS:=nZ_;have HGW:=nG_;clear nO_ nB_ nZ_ nG_ hS' hT') | (go_at_call 145;first | (with_reducible refine (alChar _ q hq).mono ?_;rintro e w' ⟨rfl,rfl⟩) | (with_reducible refine (alChar _ r hr).mono ?_;rintro e w' ⟨rfl,rfl⟩)) | ((with_reducible refine gate_builtin (b:=.append) (xs:=#[.tmp 43,.tmp 45]) rfl ?_);at_builtin;refine print_append_num (w0:=w0) base rfl (.tmp 43) (.tmp 45) 26 5 .u8 1 rfl Tryz.underlying26 F.info5 (by decide) _ _ _ rfl rfl HO.out HB.out HBS.out ?aL ?_;(case aL=>(have:=HLEN.out;(try simp only [List.length_append,List.length_cons,List.length_nil]);omega));intro v_ w1 ho hb hg hat;have nG_:=Aside0.mk (HGW.out.app hg hat);have nS_:=Aside0.mk (HS.out.grown (base:=base) HO.out hg0 hg);have nB_:=Aside0.mk (Nat.le_trans HBS.out hg.size);have n0_:=Aside0.mk ho;have n1_:=Aside0.mk hb;clear HO HB HS HBS HGW;have HO:=n0_;have HB:=n1_;have HS:=nS_;have HBS:=nB_;have HGW:=nG_;clear n0_ n1_ nS_ nB_ nG_ ho hb hg hat) | ((with_reducible refine gate_builtin (b:=.append) (xs:=#[.tmp 53,.tmp 55]) rfl ?_);at_builtin;refine print_append_num (w0:=w0) base rfl (.tmp 53) (.tmp 55) 26 5 .u8 1 rfl Tryz.underlying26 F.info5 (by decide) _ _ _ rfl rfl HO.out HB.out HBS.out ?aL ?_;(case aL=>(have:=HLEN.out;(try simp only [List.length_append,List.length_cons,List.length_nil]);omega));intro v_ w1 ho hb hg hat;have nG_:=Aside0.mk (HGW.out.app hg hat);have nS_:=Aside0.mk (HS.out.grown (base:=base) HO.out hg0 hg);have nB_:=Aside0.mk (Nat.le_trans HBS.out hg.size);have n0_:=Aside0.mk ho;have n1_:=Aside0.mk hb;clear HO HB HS HBS HGW;have HO:=n0_;have HB:=n1_;have HS:=nS_;have HBS:=nB_;have HGW:=nG_;clear n0_ n1_ nS_ nB_ nG_ ho hb hg hat))
     clear hqi hri
     go_roundw
     case rel=>exact⟨c-2,p+11,_,by go_num,by omega,HO,HS,HB,HBS,HR3,HRM,⟨by have:=HLEN.out;simp only [List.length_append,List.length_cons,List.length_nil];omega⟩,⟨by have:=HNY.out;(try simp only [List.length_append,List.length_cons,List.length_nil]);omega⟩,HGW⟩
     case measure=>simp [intOf];omega
    ·rw [if_neg (fun h=>hq h.2)] at hr3
     have HR3:=Aside0.mk hr3
     clear hr3 hroom hnn hqq hrr
     replace hq:45<=q:=by omega
     go_wp2_with (first | (go_at_call 107;refine kr.mono ?_;rintro e w' ⟨rfl,hS',hT'⟩;have nG_:=Aside0.mk (HGW.out.turn hT');have nO_:=Aside0.mk (own_turn HO.out HS.out.1 hT');have nB_:=Aside0.mk (HB.out.trans (hT'.below hbs));have nZ_:=Aside0.mk (show base<=w'.heap.size by rw [hT'.size];exact HBS.out);clear HO HS HB HBS HGW;have HO:=nO_;have HS:=Aside0.mk hS';have HB:=nB_;have HBS:=nZ_;have HGW:=nG_;clear nO_ nB_ nZ_ nG_ hS' hT') | (go_at_call 145;refine (alChar_bad _ q hq (by omega)).mono ?_;rintro e w' ⟨⟨x0,rfl⟩,hb'⟩;have nB_:=Aside0.mk (HB.out.trans (hb'.mono HBS.out));have nZ_:=Aside0.mk (Nat.le_trans HBS.out hb'.size);clear HB HBS;have HB:=nB_;have HBS:=nZ_;clear nB_ nZ_ hb') | (go_at_call 87;refine (wrapFmt _ 208 x0).mono ?_;rintro e w' ⟨⟨y0,rfl⟩,hb'⟩;have nB_:=Aside0.mk (HB.out.trans (hb'.mono HBS.out));clear HB;have HB:=nB_;clear nB_ hb'))
     go_ret2
     exact SegDone.bad (by rw [<- HR3.out];rfl) HB.out
   ·rw [if_neg (fun h=>hroom h.1)] at hr3
    have HR3:=Aside0.mk hr3
    have kb:=readBits_bad wr s g p 11 bs HS.out HP.out (by omega) HLN.out (by decide) (by decide)
    clear hr3 hroom
    go_wp2_with (first | (go_at_call 107;refine kb.mono ?_;rintro e w' ⟨⟨x0,rfl⟩,hb'⟩;have nB_:=Aside0.mk (HB.out.trans (hb'.mono HBS.out));have nZ_:=Aside0.mk (Nat.le_trans HBS.out hb'.size);clear HO HS HB HBS;have HB:=nB_;have HBS:=nZ_;clear nB_ nZ_ hb') | (go_at_call 87;refine (wrapFmt _ 216 x0).mono ?_;rintro e w' ⟨⟨y0,rfl⟩,hb'⟩;have nB_:=Aside0.mk (HB.out.trans (hb'.mono HBS.out));clear HB;have HB:=nB_;clear nB_ hb'))
    go_ret2
    exact SegDone.bad (by rw [<- HR3.out];rfl) HB.out
  ·by_cases h1:c=1
   ·subst h1
    have hr3:=HR.out
    rw [alSeg,if_neg (by decide),if_pos rfl] at hr3
    clear h3
    by_cases hroom:p+6<=8*bs.length
    ·have kr:=readBits wr s g p 6 bs HS.out hroom HLN.out (by decide) (by decide) HX.out
     obtain⟨n,hnn⟩:∃ n,rdBits bs p 6=n:=⟨_,rfl⟩
     rw [hnn] at kr hr3
     have hn24:n<64:=by rw [<- hnn];exact rdBits_lt _ _ _
     by_cases hn:n<45
     ·rw [if_pos ⟨hroom,hn⟩] at hr3
      have HR3:=Aside0.mk hr3
      clear hr3 hroom hnn
      go_wp2_with (first | (go_at_call 107;refine kr.mono ?_;rintro e w' ⟨rfl,hS',hT'⟩;have nG_:=Aside0.mk (HGW.out.turn hT');have nO_:=Aside0.mk (own_turn HO.out HS.out.1 hT');have nB_:=Aside0.mk (HB.out.trans (hT'.below hbs));have nZ_:=Aside0.mk (show base<=w'.heap.size by rw [hT'.size];exact HBS.out);clear HO HS HB HBS HGW;have HO:=nO_;have HS:=Aside0.mk hS';have HB:=nB_;have HBS:=nZ_;have HGW:=nG_;clear nO_ nB_ nZ_ nG_ hS' hT') | (go_at_call 145;refine (alChar _ n hn).mono ?_;rintro e w' ⟨rfl,rfl⟩) | ((with_reducible refine gate_builtin (b:=.append) (xs:=#[.tmp 81,.tmp 83]) rfl ?_);at_builtin;refine print_append_num (w0:=w0) base rfl (.tmp 81) (.tmp 83) 26 5 .u8 1 rfl Tryz.underlying26 F.info5 (by decide) _ _ _ rfl rfl HO.out HB.out HBS.out ?aL ?_;(case aL=>(have:=HLEN.out;(try simp only [List.length_append,List.length_cons,List.length_nil]);omega));intro v_ w1 ho hb hg hat;have nG_:=Aside0.mk (HGW.out.app hg hat);have nS_:=Aside0.mk (HS.out.grown (base:=base) HO.out hg0 hg);have nB_:=Aside0.mk (Nat.le_trans HBS.out hg.size);have n0_:=Aside0.mk ho;have n1_:=Aside0.mk hb;clear HO HB HS HBS HGW;have HO:=n0_;have HB:=n1_;have HS:=nS_;have HBS:=nB_;have HGW:=nG_;clear n0_ n1_ nS_ nB_ nG_ ho hb hg hat))
      obtain⟨YS,hYS⟩:∃ YS,YS=(ys++[alCh n]):=⟨_,rfl⟩
      rw [<- hYS] at HO
      obtain⟨A1,cc1,hv1⟩:=own_slice HO.out
      obtain⟨n1,hn1⟩:∃ n1,YS.length=n1:=⟨_,rfl⟩
      obtain⟨Z,hZ⟩:∃ Z,YS.take N0++gs1 (YS.drop N0)=Z:=⟨_,rfl⟩
      rw [hn1] at hv1
      subst hv1
      have HN1:=Aside0.mk hn1
      have HZ1:=Aside0.mk hZ
      have hle1:N0<=n1:=by rw [<- hn1,hYS];have:=HNY.out;(try simp only [List.length_append,List.length_cons,List.length_nil]);omega
      have hz1:n1<=1200000:=by rw [<- hn1,hYS];have:=HLEN.out;(try simp only [List.length_append,List.length_cons,List.length_nil]);omega
      have HRR:=Aside0.mk (show R=some (YS,(p+6)) by rw [hYS];exact HR3.out.symm)
      have hO1:=HO.out
      rw [hn1] at hO1
      have HO1:=Aside0.mk hO1
      have HZR:=Aside0.mk (show R.map (fun r=>(r.1.take N0++gs1 (r.1.drop N0),r.2))=some (Z,(p+6)) by rw [HRR.out,<- hZ];rfl)
      clear hn1 hO1 HO HLEN hYS hZ HRR HR3
      go_loopw [1,17] (fun vr vi wt=>∃ (i n:Nat) (zs:List Int) (A:Option Addr) (cc:Nat),vi=.int .i64 (i:Int)/\vr=.slice A n cc/\i<=n/\n<=1200000/\Aside0 (zs.length=n)/\Aside0 (wt.ownsRow base 5 1 (.slice A n cc) n (nums .u8 zs))/\Aside0 (SrcAt wt s g bs (p+6))/\Aside0 (Below base w0 wt)/\Aside0 (base<=wt.heap.size)/\Aside0 (Grow w wt s (.slice A0 N0 c0) (.slice A n cc))/\Aside0 (zs.take i++gs1 (zs.drop i)=Z)) (fun vr vi _=>(sliceLen vr-intOf vi).toNat)
      case atStart=>exact⟨N0,n1,_,A1,cc1,rfl,rfl,hle1,hz1,HN1,HO1,HS,HB,HBS,HGW,HZ1⟩
      case round=>
       clear HO1 HS HB HBS HGW HZ1 HN1 hz1 hle1
       obtain⟨i,n,zs,A,cc,rfl,rfl,hin,hnb,HN,HO,HS,HB,HBS,HGW,HZ⟩:=hrel
       by_cases hi:i<n
       ·obtain⟨b,cc',hf,-,-⟩:=HO.out.form (show 0<n by omega)
        simp only [Value.slice.injEq,true_and] at hf
        obtain⟨rfl,rfl⟩:=hf
        obtain⟨x,hx⟩:∃ x,rd zs i=x:=⟨_,rfl⟩
        have hc:=own_at HO.out (i:Int) (by omega) (by omega)
        rw [hx,Int.toNat_natCast] at hc
        obtain⟨r0,f0⟩:=hc
        have hxd:zs.getD i 0=x:=by rw [<- hx];unfold rd;rw [Int.toNat_natCast]
        have HXD:=Aside0.mk hxd
        clear hx hxd
        by_cases hx37:x=37
        ·subst hx37
         by_cases hi1:i+1<n
         ·obtain⟨y,hy⟩:∃ y,rd zs (i+1:Nat)=y:=⟨_,rfl⟩
          have hc:=own_at HO.out ((i+1:Nat):Int) (by omega) (by omega)
          rw [hy,Int.toNat_natCast] at hc
          have hyd:zs.getD (i+1) 0=y:=by rw [<- hy];unfold rd;rw [Int.toNat_natCast]
          have HYD:=Aside0.mk hyd
          have r1:=hc.1
          have hdec:decide ((i:Int)<(n:Int)-1)=true:=decide_eq_true (by omega)
          clear hy hyd hc
          by_cases hy37:y=37
          ·subst hy37
           have HZ2:=Aside0.mk (show (dropAt zs i).take (i+1)++gs1 ((dropAt zs i).drop (i+1))=Z by rw [gs_two zs i (by rw [HN.out];exact hi1) HXD.out HYD.out];exact HZ.out)
           obtain⟨ho,hg⟩:=own_dropAt (own_drew HO.out) HN.out hi
           have HL2:=Aside0.mk (show (dropAt zs i).length=i+(n-(i+1)) by rw [dropAt_len zs i (by rw [HN.out];exact hi),HN.out])
           have HO2:=Aside0.mk ho
           have HG2:=Aside0.mk (grown_drew hg)
           obtain⟨Ab,hAb,hnews⟩:=behind_get (own_drew HO.out) HN.out hi
           obtain⟨i0,hi0,hz0,hz1,hz2⟩:=info_parts F.info5
           have s1:=Lib.hid (show (behind zs i).length=(n-(i+1))*1 by rw [behind_len,HN.out,Nat.mul_one])
           have s2:=Lib.hid (show ∀ u∈behind zs i,u.oneCell'=true by
            intro u hu
            unfold behind nums at hu
            obtain⟨x,_,rfl⟩:=List.mem_map.1 hu
            rfl)
           have s3:=Lib.hid (show ∀ j,j<(behind zs i).length->(wr.drew.cell? ⟨b,0+i*1+j,none⟩).isSome=true/\wr.drew.frozen? ⟨b,0+i*1+j,none⟩=false by
            intro j hj
            rw [behind_len,HN.out] at hj
            have hq:=own_at HO.out ((i+j:Nat):Int) (by omega) (by omega)
            rw [Int.toNat_natCast] at hq
            rw [Nat.mul_one,Nat.zero_add]
            exact⟨by show (wr.cell? _).isSome=true;rw [hq.1];rfl,hq.2⟩)
           have s4:=Lib.hid hnews
           obtain⟨hnc,hcm,-⟩:=own_cap HO.out
           have hic:i<=cc:=by omega
           have hwr:IntKind.i64.wrap ((i:Int)+1)=(i:Int)+1:=by rw [IntKind.wrap_i64];omega
           have hp0:(0:Int)<=(i:Int)+1:=by omega
           have hp1:(i:Int)+1<=(n:Int):=by omega
           have hp2:((i:Int)+1).toNat=i+1:=by omega
           clear hnews
           go_wp2
           clear r0 f0 r1
           go_region_law (refine step_append_room rfl (.tmp 113) (.tmp 117) 26 rfl 5 i0 1 Tryz.underlying26 hi0 hz1 b 0 i cc (by simp [Act.eval,Act.put]) Ab (n-(i+1)) (cc-(i+1)) (behind zs i) (by simp [Act.eval,Act.put]) s1.out s4.out s2.out (by omega) s3.out ?_)
           go_wp2
           go_roundw
           case rel=>
            have hG:=HGW.out.app (x:=wr) (v2:=.slice (some ⟨b,0,none⟩) (i+(n-(i+1))) cc) HG2.out (.inl rfl)
            have hS:=HS.out.grown (base:=base) HO.out hg0 HG2.out
            first | exact⟨i+1,i+(n-(i+1)),dropAt zs i,_,cc,by go_num,rfl,by omega,by omega,HL2,⟨by have:=HO2.out;rw [HL2.out] at this;simpa using this⟩,⟨by simpa using hS⟩,⟨by have:=HB.out.grown HG2.out HBS.out (own_base HO.out);simpa using this⟩,⟨by have:=Nat.le_trans HBS.out HG2.out.size;simpa using this⟩,⟨by simpa using hG⟩,HZ2⟩ | ((repeat apply Exists.intro);exact⟨⟨i+1,i+(n-(i+1)),dropAt zs i,_,cc,by go_num,rfl,by omega,by omega,HL2,⟨by have:=HO2.out;rw [HL2.out] at this;simpa using this⟩,⟨by simpa using hS⟩,⟨by have:=HB.out.grown HG2.out HBS.out (own_base HO.out);simpa using this⟩,⟨by have:=Nat.le_trans HBS.out HG2.out.size;simpa using this⟩,⟨by simpa using hG⟩,HZ2⟩,rfl⟩)
           case measure=>simp [intOf,sliceLen];omega
          ·have HZ2:=Aside0.mk (show (zs.set i 29).take (i+1)++gs1 ((zs.set i 29).drop (i+1))=Z by rw [gs_sep zs i (by rw [HN.out];exact hi) HXD.out (.inr (by rw [HYD.out];exact hy37))];exact HZ.out)
           obtain⟨ho,hg⟩:=own_store HO.out (i:Int) 29
           rw [Int.toNat_natCast] at ho hg
           have HO2:=Aside0.mk ho
           have HG2:=Aside0.mk hg
           clear ho hg
           go_wp2
           go_roundw
           case rel=>
            have hG:=HGW.out.app (x:=wr) (v2:=.slice (some ⟨b,0,none⟩) n cc) HG2.out (.inl rfl)
            have hS:=HS.out.grown (base:=base) HO.out hg0 HG2.out
            exact⟨i+1,n,zs.set i 29,_,cc,by go_num,rfl,by omega,hnb,⟨by rw [List.length_set];exact HN.out⟩,HO2,⟨hS⟩,⟨HB.out.grown HG2.out HBS.out (own_base HO.out)⟩,⟨Nat.le_trans HBS.out HG2.out.size⟩,⟨hG⟩,HZ2⟩
           case measure=>simp [intOf,sliceLen];omega
         ·have hdec:decide ((i:Int)<(n:Int)-1)=false:=decide_eq_false (by omega)
          have HZ2:=Aside0.mk (show (zs.set i 29).take (i+1)++gs1 ((zs.set i 29).drop (i+1))=Z by rw [gs_sep zs i (by rw [HN.out];exact hi) HXD.out (.inl (by rw [HN.out];omega))];exact HZ.out)
          obtain⟨ho,hg⟩:=own_store HO.out (i:Int) 29
          rw [Int.toNat_natCast] at ho hg
          have HO2:=Aside0.mk ho
          have HG2:=Aside0.mk hg
          clear ho hg
          go_wp2
          go_roundw
          case rel=>
           have hG:=HGW.out.app (x:=wr) (v2:=.slice (some ⟨b,0,none⟩) n cc) HG2.out (.inl rfl)
           have hS:=HS.out.grown (base:=base) HO.out hg0 HG2.out
           exact⟨i+1,n,zs.set i 29,_,cc,by go_num,rfl,by omega,hnb,⟨by rw [List.length_set];exact HN.out⟩,HO2,⟨hS⟩,⟨HB.out.grown HG2.out HBS.out (own_base HO.out)⟩,⟨Nat.le_trans HBS.out HG2.out.size⟩,⟨hG⟩,HZ2⟩
          case measure=>simp [intOf,sliceLen];omega
        ·have HZ2:=Aside0.mk (show zs.take (i+1)++gs1 (zs.drop (i+1))=Z by rw [gs_next zs i (by rw [HN.out];exact hi) (by rw [HXD.out];exact hx37)];exact HZ.out)
         go_wp2
         go_roundw
         case rel=>exact⟨i+1,n,zs,_,cc,by go_num,rfl,by omega,hnb,HN,HO,HS,HB,HBS,HGW,HZ2⟩
         case measure=>simp [intOf,sliceLen];omega
       ·have:i=n:=by omega
        subst this
        have HZ2:=Aside0.mk (show zs=Z by have:=HZ.out;rw [<- HN.out,List.take_length,List.drop_length] at this;simpa [gs1] using this)
        go_wp2
        go_ret2
        exact SegDone.fine HZR.out (by rw [<- HZ2.out,HN.out];exact HO.out) HS.out HB.out HGW.out
     ·rw [if_neg (fun h=>hn h.2)] at hr3
      have HR3:=Aside0.mk hr3
      clear hr3 hroom hnn
      replace hn:45<=n:=by omega
      go_wp2_with (first | (go_at_call 107;refine kr.mono ?_;rintro e w' ⟨rfl,hS',hT'⟩;have nG_:=Aside0.mk (HGW.out.turn hT');have nO_:=Aside0.mk (own_turn HO.out HS.out.1 hT');have nB_:=Aside0.mk (HB.out.trans (hT'.below hbs));have nZ_:=Aside0.mk (show base<=w'.heap.size by rw [hT'.size];exact HBS.out);clear HO HS HB HBS HGW;have HO:=nO_;have HS:=Aside0.mk hS';have HB:=nB_;have HBS:=nZ_;have HGW:=nG_;clear nO_ nB_ nZ_ nG_ hS' hT') | (go_at_call 145;refine (alChar_bad _ n hn (by omega)).mono ?_;rintro e w' ⟨⟨x0,rfl⟩,hb'⟩;have nB_:=Aside0.mk (HB.out.trans (hb'.mono HBS.out));have nZ_:=Aside0.mk (Nat.le_trans HBS.out hb'.size);clear HB HBS;have HB:=nB_;have HBS:=nZ_;clear nB_ nZ_ hb') | (go_at_call 87;refine (wrapFmt _ 208 x0).mono ?_;rintro e w' ⟨⟨y0,rfl⟩,hb'⟩;have nB_:=Aside0.mk (HB.out.trans (hb'.mono HBS.out));clear HB;have HB:=nB_;clear nB_ hb'))
      go_ret2
      exact SegDone.bad (by rw [<- HR3.out];rfl) HB.out
    ·rw [if_neg (fun h=>hroom h.1)] at hr3
     have HR3:=Aside0.mk hr3
     have kb:=readBits_bad wr s g p 6 bs HS.out HP.out (by omega) HLN.out (by decide) (by decide)
     clear hr3 hroom
     go_wp2_with (first | (go_at_call 107;refine kb.mono ?_;rintro e w' ⟨⟨x0,rfl⟩,hb'⟩;have nB_:=Aside0.mk (HB.out.trans (hb'.mono HBS.out));have nZ_:=Aside0.mk (Nat.le_trans HBS.out hb'.size);clear HO HS HB HBS;have HB:=nB_;have HBS:=nZ_;clear nB_ nZ_ hb') | (go_at_call 87;refine (wrapFmt _ 216 x0).mono ?_;rintro e w' ⟨⟨y0,rfl⟩,hb'⟩;have nB_:=Aside0.mk (HB.out.trans (hb'.mono HBS.out));clear HB;have HB:=nB_;clear nB_ hb'))
     go_ret2
     exact SegDone.bad (by rw [<- HR3.out];rfl) HB.out
   ·obtain rfl:c=0:=by omega
    have hr3:=HR.out
    rw [alSeg,if_neg (by decide),if_neg (by decide)] at hr3
    have HR3:=Aside0.mk hr3
    clear h3 h1 hr3
    go_wp2
    obtain⟨YS,hYS⟩:∃ YS,YS=ys:=⟨_,rfl⟩
    rw [<- hYS] at HO
    obtain⟨A1,cc1,hv1⟩:=own_slice HO.out
    obtain⟨n1,hn1⟩:∃ n1,YS.length=n1:=⟨_,rfl⟩
    obtain⟨Z,hZ⟩:∃ Z,YS.take N0++gs1 (YS.drop N0)=Z:=⟨_,rfl⟩
    rw [hn1] at hv1
    subst hv1
    have HN1:=Aside0.mk hn1
    have HZ1:=Aside0.mk hZ
    have hle1:N0<=n1:=by rw [<- hn1,hYS];have:=HNY.out;(try simp only [List.length_append,List.length_cons,List.length_nil]);omega
    have hz1:n1<=1200000:=by rw [<- hn1,hYS];have:=HLEN.out;(try simp only [List.length_append,List.length_cons,List.length_nil]);omega
    have HRR:=Aside0.mk (show R=some (YS,p) by rw [hYS];exact HR3.out.symm)
    have hO1:=HO.out
    rw [hn1] at hO1
    have HO1:=Aside0.mk hO1
    have HZR:=Aside0.mk (show R.map (fun r=>(r.1.take N0++gs1 (r.1.drop N0),r.2))=some (Z,p) by rw [HRR.out,<- hZ];rfl)
    clear hn1 hO1 HO HLEN hYS hZ HRR HR3
    go_loopw [1,17] (fun vr vi wt=>∃ (i n:Nat) (zs:List Int) (A:Option Addr) (cc:Nat),vi=.int .i64 (i:Int)/\vr=.slice A n cc/\i<=n/\n<=1200000/\Aside0 (zs.length=n)/\Aside0 (wt.ownsRow base 5 1 (.slice A n cc) n (nums .u8 zs))/\Aside0 (SrcAt wt s g bs p)/\Aside0 (Below base w0 wt)/\Aside0 (base<=wt.heap.size)/\Aside0 (Grow w wt s (.slice A0 N0 c0) (.slice A n cc))/\Aside0 (zs.take i++gs1 (zs.drop i)=Z)) (fun vr vi _=>(sliceLen vr-intOf vi).toNat)
    case atStart=>exact⟨N0,n1,_,A1,cc1,rfl,rfl,hle1,hz1,HN1,HO1,HS,HB,HBS,HGW,HZ1⟩
    case round=>
     clear HO1 HS HB HBS HGW HZ1 HN1 hz1 hle1
     obtain⟨i,n,zs,A,cc,rfl,rfl,hin,hnb,HN,HO,HS,HB,HBS,HGW,HZ⟩:=hrel
     by_cases hi:i<n
     ·obtain⟨b,cc',hf,-,-⟩:=HO.out.form (show 0<n by omega)
      simp only [Value.slice.injEq,true_and] at hf
      obtain⟨rfl,rfl⟩:=hf
      obtain⟨x,hx⟩:∃ x,rd zs i=x:=⟨_,rfl⟩
      have hc:=own_at HO.out (i:Int) (by omega) (by omega)
      rw [hx,Int.toNat_natCast] at hc
      obtain⟨r0,f0⟩:=hc
      have hxd:zs.getD i 0=x:=by rw [<- hx];unfold rd;rw [Int.toNat_natCast]
      have HXD:=Aside0.mk hxd
      clear hx hxd
      by_cases hx37:x=37
      ·subst hx37
       by_cases hi1:i+1<n
       ·obtain⟨y,hy⟩:∃ y,rd zs (i+1:Nat)=y:=⟨_,rfl⟩
        have hc:=own_at HO.out ((i+1:Nat):Int) (by omega) (by omega)
        rw [hy,Int.toNat_natCast] at hc
        have hyd:zs.getD (i+1) 0=y:=by rw [<- hy];unfold rd;rw [Int.toNat_natCast]
        have HYD:=Aside0.mk hyd
        have r1:=hc.1
        have hdec:decide ((i:Int)<(n:Int)-1)=true:=decide_eq_true (by omega)
        clear hy hyd hc
        by_cases hy37:y=37
        ·subst hy37
         have HZ2:=Aside0.mk (show (dropAt zs i).take (i+1)++gs1 ((dropAt zs i).drop (i+1))=Z by rw [gs_two zs i (by rw [HN.out];exact hi1) HXD.out HYD.out];exact HZ.out)
         obtain⟨ho,hg⟩:=own_dropAt (own_drew HO.out) HN.out hi
         have HL2:=Aside0.mk (show (dropAt zs i).length=i+(n-(i+1)) by rw [dropAt_len zs i (by rw [HN.out];exact hi),HN.out])
         have HO2:=Aside0.mk ho
         have HG2:=Aside0.mk (grown_drew hg)
         obtain⟨Ab,hAb,hnews⟩:=behind_get (own_drew HO.out) HN.out hi
         obtain⟨i0,hi0,hz0,hz1,hz2⟩:=info_parts F.info5
         have s1:=Lib.hid (show (behind zs i).length=(n-(i+1))*1 by rw [behind_len,HN.out,Nat.mul_one])
         have s2:=Lib.hid (show ∀ u∈behind zs i,u.oneCell'=true by
          intro u hu
          unfold behind nums at hu
          obtain⟨x,_,rfl⟩:=List.mem_map.1 hu
          rfl)
         have s3:=Lib.hid (show ∀ j,j<(behind zs i).length->(wr.drew.cell? ⟨b,0+i*1+j,none⟩).isSome=true/\wr.drew.frozen? ⟨b,0+i*1+j,none⟩=false by
          intro j hj
          rw [behind_len,HN.out] at hj
          have hq:=own_at HO.out ((i+j:Nat):Int) (by omega) (by omega)
          rw [Int.toNat_natCast] at hq
          rw [Nat.mul_one,Nat.zero_add]
          exact⟨by show (wr.cell? _).isSome=true;rw [hq.1];rfl,hq.2⟩)
         have s4:=Lib.hid hnews
         obtain⟨hnc,hcm,-⟩:=own_cap HO.out
         have hic:i<=cc:=by omega
         have hwr:IntKind.i64.wrap ((i:Int)+1)=(i:Int)+1:=by rw [IntKind.wrap_i64];omega
         have hp0:(0:Int)<=(i:Int)+1:=by omega
         have hp1:(i:Int)+1<=(n:Int):=by omega
         have hp2:((i:Int)+1).toNat=i+1:=by omega
         clear hnews
         go_wp2
         clear r0 f0 r1
         go_region_law (refine step_append_room rfl (.tmp 113) (.tmp 117) 26 rfl 5 i0 1 Tryz.underlying26 hi0 hz1 b 0 i cc (by simp [Act.eval,Act.put]) Ab (n-(i+1)) (cc-(i+1)) (behind zs i) (by simp [Act.eval,Act.put]) s1.out s4.out s2.out (by omega) s3.out ?_)
         go_wp2
         go_roundw
         case rel=>
          have hG:=HGW.out.app (x:=wr) (v2:=.slice (some ⟨b,0,none⟩) (i+(n-(i+1))) cc) HG2.out (.inl rfl)
          have hS:=HS.out.grown (base:=base) HO.out hg0 HG2.out
          first | exact⟨i+1,i+(n-(i+1)),dropAt zs i,_,cc,by go_num,rfl,by omega,by omega,HL2,⟨by have:=HO2.out;rw [HL2.out] at this;simpa using this⟩,⟨by simpa using hS⟩,⟨by have:=HB.out.grown HG2.out HBS.out (own_base HO.out);simpa using this⟩,⟨by have:=Nat.le_trans HBS.out HG2.out.size;simpa using this⟩,⟨by simpa using hG⟩,HZ2⟩ | ((repeat apply Exists.intro);exact⟨⟨i+1,i+(n-(i+1)),dropAt zs i,_,cc,by go_num,rfl,by omega,by omega,HL2,⟨by have:=HO2.out;rw [HL2.out] at this;simpa using this⟩,⟨by simpa using hS⟩,⟨by have:=HB.out.grown HG2.out HBS.out (own_base HO.out);simpa using this⟩,⟨by have:=Nat.le_trans HBS.out HG2.out.size;simpa using this⟩,⟨by simpa using hG⟩,HZ2⟩,rfl⟩)
         case measure=>simp [intOf,sliceLen];omega
        ·have HZ2:=Aside0.mk (show (zs.set i 29).take (i+1)++gs1 ((zs.set i 29).drop (i+1))=Z by rw [gs_sep zs i (by rw [HN.out];exact hi) HXD.out (.inr (by rw [HYD.out];exact hy37))];exact HZ.out)
         obtain⟨ho,hg⟩:=own_store HO.out (i:Int) 29
         rw [Int.toNat_natCast] at ho hg
         have HO2:=Aside0.mk ho
         have HG2:=Aside0.mk hg
         clear ho hg
         go_wp2
         go_roundw
         case rel=>
          have hG:=HGW.out.app (x:=wr) (v2:=.slice (some ⟨b,0,none⟩) n cc) HG2.out (.inl rfl)
          have hS:=HS.out.grown (base:=base) HO.out hg0 HG2.out
          exact⟨i+1,n,zs.set i 29,_,cc,by go_num,rfl,by omega,hnb,⟨by rw [List.length_set];exact HN.out⟩,HO2,⟨hS⟩,⟨HB.out.grown HG2.out HBS.out (own_base HO.out)⟩,⟨Nat.le_trans HBS.out HG2.out.size⟩,⟨hG⟩,HZ2⟩
         case measure=>simp [intOf,sliceLen];omega
       ·have hdec:decide ((i:Int)<(n:Int)-1)=false:=decide_eq_false (by omega)
        have HZ2:=Aside0.mk (show (zs.set i 29).take (i+1)++gs1 ((zs.set i 29).drop (i+1))=Z by rw [gs_sep zs i (by rw [HN.out];exact hi) HXD.out (.inl (by rw [HN.out];omega))];exact HZ.out)
        obtain⟨ho,hg⟩:=own_store HO.out (i:Int) 29
        rw [Int.toNat_natCast] at ho hg
        have HO2:=Aside0.mk ho
        have HG2:=Aside0.mk hg
        clear ho hg
        go_wp2
        go_roundw
        case rel=>
         have hG:=HGW.out.app (x:=wr) (v2:=.slice (some ⟨b,0,none⟩) n cc) HG2.out (.inl rfl)
         have hS:=HS.out.grown (base:=base) HO.out hg0 HG2.out
         exact⟨i+1,n,zs.set i 29,_,cc,by go_num,rfl,by omega,hnb,⟨by rw [List.length_set];exact HN.out⟩,HO2,⟨hS⟩,⟨HB.out.grown HG2.out HBS.out (own_base HO.out)⟩,⟨Nat.le_trans HBS.out HG2.out.size⟩,⟨hG⟩,HZ2⟩
        case measure=>simp [intOf,sliceLen];omega
      ·have HZ2:=Aside0.mk (show zs.take (i+1)++gs1 (zs.drop (i+1))=Z by rw [gs_next zs i (by rw [HN.out];exact hi) (by rw [HXD.out];exact hx37)];exact HZ.out)
       go_wp2
       go_roundw
       case rel=>exact⟨i+1,n,zs,_,cc,by go_num,rfl,by omega,hnb,HN,HO,HS,HB,HBS,HGW,HZ2⟩
       case measure=>simp [intOf,sliceLen];omega
     ·have:i=n:=by omega
      subst this
      have HZ2:=Aside0.mk (show zs=Z by have:=HZ.out;rw [<- HN.out,List.take_length,List.drop_length] at this;simpa [gs1] using this)
      go_wp2
      go_ret2
      exact SegDone.fine HZR.out (by rw [<- HZ2.out,HN.out];exact HO.out) HS.out HB.out HGW.out
set_option maxHeartbeats 4000000 in
set_option maxRecDepth 8000 in
theorem alWalk (w0 w:World)(base s g pos cnt:Nat)(bs:List Nat)(v:Value)(xs:List Int)(hS:SrcAt w s g bs pos)(hg0:g<base)(hbs:base<=s)(hO:w.ownsRow base 5 1 v xs.length (nums .u8 xs))(hB:Below base w0 w)(hbase:base<=w.heap.size)
  (hx:AllLt 8 bs) (hl:bs.length<=100000) (hcnt:cnt<=100000) (hxl:xs.length<=1000000) (hp:pos<=8*bs.length) :
  Calls Tryz.prog 114 #[.pointer (some ⟨s,0,none⟩),v,.int .i64 (cnt:Int),.bool false] w (SegDone w0 w v base s g bs (alSeg bs pos cnt xs)):=by
 obtain⟨R,hR⟩:∃ R,alSeg bs pos cnt xs=R:=⟨_,rfl⟩
 rw [hR]
 obtain⟨A0,c0,hv⟩:=own_slice hO
 obtain⟨N0,hN0⟩:∃ N0,xs.length=N0:=⟨_,rfl⟩
 rw [hN0] at hv
 subst hv
 have HGW:=Aside0.mk (Grow.refl w s (.slice A0 N0 c0))
 have HS:=Aside0.mk hS
 have HO:=Aside0.mk hO
 have HB:=Aside0.mk hB
 have HX:=Aside0.mk hx
 have HR:=Aside0.mk hR
 have HP:=Aside0.mk hp
 have HLN:=Aside0.mk hl
 have HXL:=Aside0.mk hxl
 clear hS hO hB hx hR hp hl hxl hN0
 go_enter Tryz.func114,Tryz.ntmps114
 go_wp2
 go_loopw [1,2] (fun vr vc wr=>∃ (c p:Nat) (ys:List Int),vc=.int .i64 (c:Int)/\c<=cnt/\Aside0 (wr.ownsRow base 5 1 vr ys.length (nums .u8 ys))/\Aside0 (SrcAt wr s g bs p)/\Aside0 (Below base w0 wr)/\Aside0 (base<=wr.heap.size)/\
  Aside0 (alSeg bs p c ys=R)/\Aside0 (p<=8*bs.length)/\Aside0 (ys.length+c<=1100000)/\Aside0 (Grow w wr s (.slice A0 N0 c0) vr)) (fun _ vc _=>(intOf vc).toNat)
 case atStart=>exact⟨cnt,pos,xs,rfl,Nat.le_refl _,HO,HS,HB,⟨hbase⟩,HR,HP,⟨by have:=HXL.out;omega⟩,HGW⟩
 case round=>
  clear HO HS HB HR HP HGW
  obtain⟨c,p,ys,rfl,hcc,HO,HS,HB,HBS,HR,HP,HLEN,HGW⟩:=hrel
  by_cases h3:2<=c
  ·have hr3:=HR.out
   rw [alSeg,if_pos h3] at hr3
   by_cases hroom:p+11<=8*bs.length
   ·have kr:=readBits wr s g p 11 bs HS.out hroom HLN.out (by decide) (by decide) HX.out
    obtain⟨n,hnn⟩:∃ n,rdBits bs p 11=n:=⟨_,rfl⟩
    rw [hnn] at kr hr3
    have hn24:n<2048:=by rw [<- hnn];exact rdBits_lt _ _ _
    obtain⟨q,hqq⟩:∃ q,n/45=q:=⟨_,rfl⟩
    obtain⟨r,hrr⟩:∃ r,n%45=r:=⟨_,rfl⟩
    have hqi:(n:Int)/45=(q:Int):=by omega
    have hri:(n:Int)%45=(r:Int):=by omega
    have hq100:q<100:=by omega
    have hr:r<45:=by omega
    rw [hqq,hrr] at hr3
    by_cases hq:q<45
    ·rw [if_pos ⟨hroom,hq⟩] at hr3
     have HR3:=Aside0.mk hr3
     have HRM:=Aside0.mk hroom
     clear hr3 hroom hnn hqq hrr
     go_wp2_with (first | (go_at_call 107;refine kr.mono ?_;rintro e w' ⟨rfl,hS',hT'⟩;have nG_:=Aside0.mk (HGW.out.turn hT');have nO_:=Aside0.mk (own_turn HO.out HS.out.1 hT');have nB_:=Aside0.mk (HB.out.trans (hT'.below hbs));have nZ_:=Aside0.mk (show base<=w'.heap.size by rw [hT'.size];exact HBS.out);clear HO HS HB HBS HGW;have HO:=nO_;have HS:=Aside0.mk hS';have HB:=nB_;have HBS:=nZ_;have HGW:=nG_;clear nO_ nB_ nZ_ nG_ hS' hT') | (go_at_call 145;first | (with_reducible refine (alChar _ q hq).mono ?_;rintro e w' ⟨rfl,rfl⟩) | (with_reducible refine (alChar _ r hr).mono ?_;rintro e w' ⟨rfl,rfl⟩)) | ((with_reducible refine gate_builtin (b:=.append) (xs:=#[.tmp 43,.tmp 45]) rfl ?_);at_builtin;refine print_append_num (w0:=w0) base rfl (.tmp 43) (.tmp 45) 26 5 .u8 1 rfl Tryz.underlying26 F.info5 (by decide) _ _ _ rfl rfl HO.out HB.out HBS.out ?aL ?_;(case aL=>(have:=HLEN.out;(try simp only [List.length_append,List.length_cons,List.length_nil]);omega));intro v_ w1 ho hb hg hat;have nG_:=Aside0.mk (HGW.out.app hg hat);have nS_:=Aside0.mk (HS.out.grown (base:=base) HO.out hg0 hg);have nB_:=Aside0.mk (Nat.le_trans HBS.out hg.size);have n0_:=Aside0.mk ho;have n1_:=Aside0.mk hb;clear HO HB HS HBS HGW;have HO:=n0_;have HB:=n1_;have HS:=nS_;have HBS:=nB_;have HGW:=nG_;clear n0_ n1_ nS_ nB_ nG_ ho hb hg hat) | ((with_reducible refine gate_builtin (b:=.append) (xs:=#[.tmp 53,.tmp 55]) rfl ?_);at_builtin;refine print_append_num (w0:=w0) base rfl (.tmp 53) (.tmp 55) 26 5 .u8 1 rfl Tryz.underlying26 F.info5 (by decide) _ _ _ rfl rfl HO.out HB.out HBS.out ?aL ?_;(case aL=>(have:=HLEN.out;(try simp only [List.length_append,List.length_cons,List.length_nil]);omega));intro v_ w1 ho hb hg hat;have nG_:=Aside0.mk (HGW.out.app hg hat);have nS_:=Aside0.mk (HS.out.grown (base:=base) HO.out hg0 hg);have nB_:=Aside0.mk (Nat.le_trans HBS.out hg.size);have n0_:=Aside0.mk ho;have n1_:=Aside0.mk hb;clear HO HB HS HBS HGW;have HO:=n0_;have HB:=n1_;have HS:=nS_;have HBS:=nB_;have HGW:=nG_;clear n0_ n1_ nS_ nB_ nG_ ho hb hg hat))
     clear hqi hri
     go_roundw
     case rel=>exact⟨c-2,p+11,_,by go_num,by omega,HO,HS,HB,HBS,HR3,HRM,⟨by have:=HLEN.out;simp only [List.length_append,List.length_cons,List.length_nil];omega⟩,HGW⟩
     case measure=>simp [intOf];omega
    ·rw [if_neg (fun h=>hq h.2)] at hr3
     have HR3:=Aside0.mk hr3
     clear hr3 hroom hnn hqq hrr
     replace hq:45<=q:=by omega
     go_wp2_with (first | (go_at_call 107;refine kr.mono ?_;rintro e w' ⟨rfl,hS',hT'⟩;have nG_:=Aside0.mk (HGW.out.turn hT');have nO_:=Aside0.mk (own_turn HO.out HS.out.1 hT');have nB_:=Aside0.mk (HB.out.trans (hT'.below hbs));have nZ_:=Aside0.mk (show base<=w'.heap.size by rw [hT'.size];exact HBS.out);clear HO HS HB HBS HGW;have HO:=nO_;have HS:=Aside0.mk hS';have HB:=nB_;have HBS:=nZ_;have HGW:=nG_;clear nO_ nB_ nZ_ nG_ hS' hT') | (go_at_call 145;refine (alChar_bad _ q hq (by omega)).mono ?_;rintro e w' ⟨⟨x0,rfl⟩,hb'⟩;have nB_:=Aside0.mk (HB.out.trans (hb'.mono HBS.out));have nZ_:=Aside0.mk (Nat.le_trans HBS.out hb'.size);clear HB HBS;have HB:=nB_;have HBS:=nZ_;clear nB_ nZ_ hb') | (go_at_call 87;refine (wrapFmt _ 208 x0).mono ?_;rintro e w' ⟨⟨y0,rfl⟩,hb'⟩;have nB_:=Aside0.mk (HB.out.trans (hb'.mono HBS.out));clear HB;have HB:=nB_;clear nB_ hb'))
     go_ret2
     exact SegDone.bad HR3.out.symm HB.out
   ·rw [if_neg (fun h=>hroom h.1)] at hr3
    have HR3:=Aside0.mk hr3
    have kb:=readBits_bad wr s g p 11 bs HS.out HP.out (by omega) HLN.out (by decide) (by decide)
    clear hr3 hroom
    go_wp2_with (first | (go_at_call 107;refine kb.mono ?_;rintro e w' ⟨⟨x0,rfl⟩,hb'⟩;have nB_:=Aside0.mk (HB.out.trans (hb'.mono HBS.out));have nZ_:=Aside0.mk (Nat.le_trans HBS.out hb'.size);clear HO HS HB HBS;have HB:=nB_;have HBS:=nZ_;clear nB_ nZ_ hb') | (go_at_call 87;refine (wrapFmt _ 216 x0).mono ?_;rintro e w' ⟨⟨y0,rfl⟩,hb'⟩;have nB_:=Aside0.mk (HB.out.trans (hb'.mono HBS.out));clear HB;have HB:=nB_;clear nB_ hb'))
    go_ret2
    exact SegDone.bad HR3.out.symm HB.out
  ·by_cases h1:c=1
   ·subst h1
    have hr3:=HR.out
    rw [alSeg,if_neg (by decide),if_pos rfl] at hr3
    clear h3
    by_cases hroom:p+6<=8*bs.length
    ·have kr:=readBits wr s g p 6 bs HS.out hroom HLN.out (by decide) (by decide) HX.out
     obtain⟨n,hnn⟩:∃ n,rdBits bs p 6=n:=⟨_,rfl⟩
     rw [hnn] at kr hr3
     have hn24:n<64:=by rw [<- hnn];exact rdBits_lt _ _ _
     by_cases hn:n<45
     ·rw [if_pos ⟨hroom,hn⟩] at hr3
      have HR3:=Aside0.mk hr3
      clear hr3 hroom hnn
      go_wp2_with (first | (go_at_call 107;refine kr.mono ?_;rintro e w' ⟨rfl,hS',hT'⟩;have nG_:=Aside0.mk (HGW.out.turn hT');have nO_:=Aside0.mk (own_turn HO.out HS.out.1 hT');have nB_:=Aside0.mk (HB.out.trans (hT'.below hbs));have nZ_:=Aside0.mk (show base<=w'.heap.size by rw [hT'.size];exact HBS.out);clear HO HS HB HBS HGW;have HO:=nO_;have HS:=Aside0.mk hS';have HB:=nB_;have HBS:=nZ_;have HGW:=nG_;clear nO_ nB_ nZ_ nG_ hS' hT') | (go_at_call 145;refine (alChar _ n hn).mono ?_;rintro e w' ⟨rfl,rfl⟩) | ((with_reducible refine gate_builtin (b:=.append) (xs:=#[.tmp 81,.tmp 83]) rfl ?_);at_builtin;refine print_append_num (w0:=w0) base rfl (.tmp 81) (.tmp 83) 26 5 .u8 1 rfl Tryz.underlying26 F.info5 (by decide) _ _ _ rfl rfl HO.out HB.out HBS.out ?aL ?_;(case aL=>(have:=HLEN.out;(try simp only [List.length_append,List.length_cons,List.length_nil]);omega));intro v_ w1 ho hb hg hat;have nG_:=Aside0.mk (HGW.out.app hg hat);have nS_:=Aside0.mk (HS.out.grown (base:=base) HO.out hg0 hg);have nB_:=Aside0.mk (Nat.le_trans HBS.out hg.size);have n0_:=Aside0.mk ho;have n1_:=Aside0.mk hb;clear HO HB HS HBS HGW;have HO:=n0_;have HB:=n1_;have HS:=nS_;have HBS:=nB_;have HGW:=nG_;clear n0_ n1_ nS_ nB_ nG_ ho hb hg hat))
      go_ret2
      exact SegDone.fine HR3.out.symm HO.out HS.out HB.out HGW.out
     ·rw [if_neg (fun h=>hn h.2)] at hr3
      have HR3:=Aside0.mk hr3
      clear hr3 hroom hnn
      replace hn:45<=n:=by omega
      go_wp2_with (first | (go_at_call 107;refine kr.mono ?_;rintro e w' ⟨rfl,hS',hT'⟩;have nG_:=Aside0.mk (HGW.out.turn hT');have nO_:=Aside0.mk (own_turn HO.out HS.out.1 hT');have nB_:=Aside0.mk (HB.out.trans (hT'.below hbs));have nZ_:=Aside0.mk (show base<=w'.heap.size by rw [hT'.size];exact HBS.out);clear HO HS HB HBS HGW;have HO:=nO_;have HS:=Aside0.mk hS';have HB:=nB_;have HBS:=nZ_;have HGW:=nG_;clear nO_ nB_ nZ_ nG_ hS' hT') | (go_at_call 145;refine (alChar_bad _ n hn (by omega)).mono ?_;rintro e w' ⟨⟨x0,rfl⟩,hb'⟩;have nB_:=Aside0.mk (HB.out.trans (hb'.mono HBS.out));have nZ_:=Aside0.mk (Nat.le_trans HBS.out hb'.size);clear HB HBS;have HB:=nB_;have HBS:=nZ_;clear nB_ nZ_ hb') | (go_at_call 87;refine (wrapFmt _ 208 x0).mono ?_;rintro e w' ⟨⟨y0,rfl⟩,hb'⟩;have nB_:=Aside0.mk (HB.out.trans (hb'.mono HBS.out));clear HB;have HB:=nB_;clear nB_ hb'))
      go_ret2
      exact SegDone.bad HR3.out.symm HB.out
    ·rw [if_neg (fun h=>hroom h.1)] at hr3
     have HR3:=Aside0.mk hr3
     have kb:=readBits_bad wr s g p 6 bs HS.out HP.out (by omega) HLN.out (by decide) (by decide)
     clear hr3 hroom
     go_wp2_with (first | (go_at_call 107;refine kb.mono ?_;rintro e w' ⟨⟨x0,rfl⟩,hb'⟩;have nB_:=Aside0.mk (HB.out.trans (hb'.mono HBS.out));have nZ_:=Aside0.mk (Nat.le_trans HBS.out hb'.size);clear HO HS HB HBS;have HB:=nB_;have HBS:=nZ_;clear nB_ nZ_ hb') | (go_at_call 87;refine (wrapFmt _ 216 x0).mono ?_;rintro e w' ⟨⟨y0,rfl⟩,hb'⟩;have nB_:=Aside0.mk (HB.out.trans (hb'.mono HBS.out));clear HB;have HB:=nB_;clear nB_ hb'))
     go_ret2
     exact SegDone.bad HR3.out.symm HB.out
   ·obtain rfl:c=0:=by omega
    have hr3:=HR.out
    rw [alSeg,if_neg (by decide),if_neg (by decide)] at hr3
    have HR3:=Aside0.mk hr3
    clear h3 h1 hr3
    go_wp2
    go_ret2
    exact SegDone.fine HR3.out.symm HO.out HS.out HB.out HGW.out
end Go.Proofs.YtgccjgpdjkhpdaaGreat.B
