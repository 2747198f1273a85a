import Derived.Test.YtgccjgpdjkhpdaaGreatVErrors22
open Go.Proofs.YtgccjgpdjkhpdaaGreatW.PrintWords.Aside0 renaming mk→Mw
open Nat renaming le_trans→Mx
open List renaming length_append→My,length_cons→Mz,length_nil→MA
/-! Own texts of this claim, part 24. -/
namespace Go.Proofs.YtgccjgpdjkhpdaaGreat.B
open Go.RowKit Go.Proofs.YtgccjgpdjkhpdaaGreatW.PrintWords Go.Proofs.YtgccjgpdjkhpdaaGreatW.PrintLast Go.Proofs.YtgccjgpdjkhpdaaGreatW.PrintMore
set_option linter.unusedVariables false
set_option linter.unusedSimpArgs false
def dh (w0 w:World)(v:Value)(base s g:Nat)(bs:List Nat)(r:Option (List Int×Nat))(e:Ending)(w':World):Prop :=
 match r with
 | some (ys,p)=>∃ v',e=.returned (.tuple #[v',.nilIface])/\w'.ownsRow base 5 1 v' ys.length (ac .u8 ys)/\ca w' s g bs p/\Below base w0 w'/\cT w w' s v v'
 | none=>∃ v x,e=.returned (.tuple #[v,.iface 208 x])/\Below base w0 w'
theorem dh.fine {w0 w:World}{v0:Value}{base s g:Nat}{bs:List Nat}{r:Option (List Int×Nat)}{w':World}{v:Value}{ys:List Int}{p:Nat}(hr:r=some (ys,p))(h1:w'.ownsRow base 5 1 v ys.length (ac .u8 ys))(h2:ca w' s g bs p)(h3:Below base w0 w')(h4:cT w w' s v0 v):dh w0 w v0 base s g bs r (.returned (.tuple #[v,.nilIface])) w':=by
 subst hr;exact⟨v,rfl,h1,h2,h3,h4⟩
theorem dh.bad {w0 w:World}{v0:Value}{base s g:Nat}{bs:List Nat}{r:Option (List Int×Nat)}{w':World}{v x:Value}(hr:r=none)(h3:Below base w0 w'):dh w0 w v0 base s g bs r (.returned (.tuple #[v,.iface 208 x])) w':=by
 subst hr;exact⟨v,x,rfl,h3⟩
set_option maxHeartbeats 4000000 in
set_option maxRecDepth 8000 in
theorem yX (w0 w:World)(base s g pos cnt:Nat)(bs:List Nat)(v:Value)(xs:List Int)(hS:ca w s g bs pos)(hg0:g<base)(hbs:base<=s)(hO:w.ownsRow base 5 1 v xs.length (ac .u8 xs))(hB:Below base w0 w)(hbase:base<=w.heap.size)
  (hx:ab 8 bs) (hl:bs.length<=100000) (hcnt:cnt<=100000) (hxl:xs.length<=1000000) (hp:pos<=8*bs.length) :
  Calls Tryz.prog 113 #[.pointer (some ⟨s,0,none⟩),v,.int .i64 (cnt:Int)] w (dh w0 w v base s g bs (eF bs pos cnt xs)):=by
 obtain⟨R,hR⟩:∃ R,eF bs pos cnt xs=R:=⟨_,rfl⟩;rw [hR];have HGW:=Mw (cT.refl w s v);have HS:=Mw hS;have HO:=Mw hO;have HB:=Mw hB;have HX:=Mw hx;have HR:=Mw hR;have HP:=Mw hp;have HLN:=Mw hl;have HXL:=Mw hxl;clear hS hO hB hx hR hp hl hxl
 go_enter Tryz.func113,Tryz.ntmps113
 go_wp2
 go_loopw [1,2] (fun vr vc wr=>∃ (c p:Nat) (ys:List Int),vc=.int .i64 (c:Int)/\c<=cnt/\Aside0 (wr.ownsRow base 5 1 vr ys.length (ac .u8 ys))/\Aside0 (ca wr s g bs p)/\Aside0 (Below base w0 wr)/\Aside0 (base<=wr.heap.size)/\
  Aside0 (eF bs p c ys=R)/\Aside0 (p<=8*bs.length)/\Aside0 (ys.length+c<=1100000)/\Aside0 (cT w wr s v vr)) (fun _ vc _=>(intOf vc).toNat)
 case atStart=>exact⟨cnt,pos,xs,rfl,Nat.le_refl _,HO,HS,HB,⟨hbase⟩,HR,HP,⟨by have:=HXL.out;omega⟩,HGW⟩
 case round=>
  clear HO HS HB HR HP HGW;obtain⟨c,p,ys,rfl,hcc,HO,HS,HB,HBS,HR,HP,HLEN,HGW⟩:=hrel;by_cases h3:3<=c
  ·have hr3:=HR.out;rw [eF,if_pos h3] at hr3;by_cases hroom:p+10<=8*bs.length;rotate_left
   ·rw [if_neg (fun h=>hroom h.1)] at hr3;have HR3:=Mw hr3;have kb:=lS wr s g p 10 bs HS.out HP.out (by omega) HLN.out (by decide) (by decide);clear hr3 hroom
    go_wp2_with (first | (go_at_call 107;refine kb.mono ?_;rintro e w' ⟨⟨x0,rfl⟩,hb'⟩;have nB_:=Mw (HB.out.trans (hb'.mono HBS.out));have nZ_:=Mw (Mx HBS.out hb'.size);clear HO HS HB HBS;have HB:=nB_;have HBS:=nZ_;clear nB_ nZ_ hb') | (go_at_call 87;refine (jd _ 216 x0).mono ?_;rintro e w' ⟨⟨y0,rfl⟩,hb'⟩;have nB_:=Mw (HB.out.trans (hb'.mono HBS.out));clear HB;have HB:=nB_;clear nB_ hb'))
    go_ret2
    exact dh.bad HR3.out.symm HB.out
   have kr:=kQ wr s g p 10 bs HS.out hroom HLN.out (by decide) (by decide) HX.out;obtain⟨n,hnn⟩:∃ n,aq bs p 10=n:=⟨_,rfl⟩;rw [hnn] at kr hr3;have hn24:n<1024:=by rw [<- hnn];exact gy _ _ _
   by_cases hn:n<1000;rotate_left
   ·rw [if_neg (fun h=>hn h.2)] at hr3;have HR3:=Mw hr3;clear hr3 hroom hnn
    go_wp2_with (first | (go_at_call 107;refine kr.mono ?_;rintro e w' ⟨rfl,hS',hT'⟩;have nG_:=Mw (HGW.out.turn hT');have nO_:=Mw (gW HO.out HS.out.1 hT');have nB_:=Mw (HB.out.trans (hT'.below hbs));have nZ_:=Mw (show base<=w'.heap.size by rw [hT'.size];exact HBS.out);clear HO HS HB HBS HGW;have HO:=nO_;have HS:=Mw hS';have HB:=nB_;have HBS:=nZ_;have HGW:=nG_;clear nO_ nB_ nZ_ nG_ hS' hT') | (go_at_call 89;refine (pt _ _).mono ?_;rintro e w' ⟨⟨y0,rfl⟩,hb'⟩;have nB_:=Mw ((HB.out.alloc HBS.out _).trans (hb'.mono (by simp;exact Nat.le_succ_of_le HBS.out)));clear HB;have HB:=nB_;clear nB_ hb'))
    go_ret2
    exact dh.bad HR3.out.symm HB.out
   rw [if_pos ⟨hroom,hn⟩] at hr3;have HR3:=Mw hr3;have HRM:=Mw hroom;clear hr3 hroom hnn
   go_wp2_with (first | (go_at_call 107;refine kr.mono ?_;rintro e w' ⟨rfl,hS',hT'⟩;have nG_:=Mw (HGW.out.turn hT');have nO_:=Mw (gW HO.out HS.out.1 hT');have nB_:=Mw (HB.out.trans (hT'.below hbs));have nZ_:=Mw (show base<=w'.heap.size by rw [hT'.size];exact HBS.out);clear HO HS HB HBS HGW;have HO:=nO_;have HS:=Mw hS';have HB:=nB_;have HBS:=nZ_;have HGW:=nG_;clear nO_ nB_ nZ_ nG_ hS' hT') | ((with_reducible refine bD (b:=.append) (xs:=#[.tmp 34,.tmp 39]) rfl ?_);at_builtin;refine eI (w0:=w0) base rfl (.tmp 34) (.tmp 39) 26 5 .u8 1 rfl Tryz.underlying26 F.cS (by decide) _ _ _ rfl rfl HO.out HB.out HBS.out ?aL ?_;(case aL=>(have:=HLEN.out;(try simp only [My,Mz,MA]);omega));intro v_ w1 ho hb hg hat;have nG_:=Mw (HGW.out.app hg hat);have nS_:=Mw (HS.out.grown (base:=base) HO.out hg0 hg);have nB_:=Mw (Mx HBS.out hg.size);have n0_:=Mw ho;have n1_:=Mw hb;clear HO HB HS HBS HGW;have HO:=n0_;have HB:=n1_;have HS:=nS_;have HBS:=nB_;have HGW:=nG_;clear n0_ n1_ nS_ nB_ nG_ ho hb hg hat) | ((with_reducible refine bD (b:=.append) (xs:=#[.tmp 41,.tmp 47]) rfl ?_);at_builtin;refine eI (w0:=w0) base rfl (.tmp 41) (.tmp 47) 26 5 .u8 1 rfl Tryz.underlying26 F.cS (by decide) _ _ _ rfl rfl HO.out HB.out HBS.out ?aL ?_;(case aL=>(have:=HLEN.out;(try simp only [My,Mz,MA]);omega));intro v_ w1 ho hb hg hat;have nG_:=Mw (HGW.out.app hg hat);have nS_:=Mw (HS.out.grown (base:=base) HO.out hg0 hg);have nB_:=Mw (Mx HBS.out hg.size);have n0_:=Mw ho;have n1_:=Mw hb;clear HO HB HS HBS HGW;have HO:=n0_;have HB:=n1_;have HS:=nS_;have HBS:=nB_;have HGW:=nG_;clear n0_ n1_ nS_ nB_ nG_ ho hb hg hat) | ((with_reducible refine bD (b:=.append) (xs:=#[.tmp 49,.tmp 54]) rfl ?_);at_builtin;refine eI (w0:=w0) base rfl (.tmp 49) (.tmp 54) 26 5 .u8 1 rfl Tryz.underlying26 F.cS (by decide) _ _ _ rfl rfl HO.out HB.out HBS.out ?aL ?_;(case aL=>(have:=HLEN.out;(try simp only [My,Mz,MA]);omega));intro v_ w1 ho hb hg hat;have nG_:=Mw (HGW.out.app hg hat);have nS_:=Mw (HS.out.grown (base:=base) HO.out hg0 hg);have nB_:=Mw (Mx HBS.out hg.size);have n0_:=Mw ho;have n1_:=Mw hb;clear HO HB HS HBS HGW;have HO:=n0_;have HB:=n1_;have HS:=nS_;have HBS:=nB_;have HGW:=nG_;clear n0_ n1_ nS_ nB_ nG_ ho hb hg hat))
   go_roundw
   case rel=>exact⟨c-3,p+10,_,by go_num,by omega,HO,HS,HB,HBS,⟨by have:=HR3.out;simpa using this⟩,HRM,⟨by have:=HLEN.out;simp only [My,Mz,MA];omega⟩,HGW⟩
   case measure=>simp [intOf];omega
  by_cases h2:c=2;rotate_left
  ·by_cases h1:c=1;rotate_left
   ·obtain rfl:c=0:=by omega
    have hr3:=HR.out;rw [eF,if_neg (by decide),if_neg (by decide),if_neg (by decide)] at hr3;have HR3:=Mw hr3;clear h3 h2 h1 hr3
    go_wp2
    go_ret2
    exact dh.fine HR3.out.symm HO.out HS.out HB.out HGW.out
   subst h1;have hr3:=HR.out;rw [eF,if_neg (by decide),if_neg (by decide),if_pos rfl] at hr3;clear h3 h2;by_cases hroom:p+4<=8*bs.length;rotate_left
   ·rw [if_neg (fun h=>hroom h.1)] at hr3;have HR3:=Mw hr3;have kb:=lS wr s g p 4 bs HS.out HP.out (by omega) HLN.out (by decide) (by decide);clear hr3 hroom
    go_wp2_with (first | (go_at_call 107;refine kb.mono ?_;rintro e w' ⟨⟨x0,rfl⟩,hb'⟩;have nB_:=Mw (HB.out.trans (hb'.mono HBS.out));have nZ_:=Mw (Mx HBS.out hb'.size);clear HO HS HB HBS;have HB:=nB_;have HBS:=nZ_;clear nB_ nZ_ hb') | (go_at_call 87;refine (jd _ 216 x0).mono ?_;rintro e w' ⟨⟨y0,rfl⟩,hb'⟩;have nB_:=Mw (HB.out.trans (hb'.mono HBS.out));clear HB;have HB:=nB_;clear nB_ hb'))
    go_ret2
    exact dh.bad HR3.out.symm HB.out
   have kr:=kQ wr s g p 4 bs HS.out hroom HLN.out (by decide) (by decide) HX.out;obtain⟨n,hnn⟩:∃ n,aq bs p 4=n:=⟨_,rfl⟩;rw [hnn] at kr hr3;have hn24:n<16:=by rw [<- hnn];exact gy _ _ _
   by_cases hn:n<10;rotate_left
   ·rw [if_neg (fun h=>hn h.2)] at hr3;have HR3:=Mw hr3;clear hr3 hroom hnn
    go_wp2_with (first | (go_at_call 107;refine kr.mono ?_;rintro e w' ⟨rfl,hS',hT'⟩;have nG_:=Mw (HGW.out.turn hT');have nO_:=Mw (gW HO.out HS.out.1 hT');have nB_:=Mw (HB.out.trans (hT'.below hbs));have nZ_:=Mw (show base<=w'.heap.size by rw [hT'.size];exact HBS.out);clear HO HS HB HBS HGW;have HO:=nO_;have HS:=Mw hS';have HB:=nB_;have HBS:=nZ_;have HGW:=nG_;clear nO_ nB_ nZ_ nG_ hS' hT') | (go_at_call 89;refine (pt _ _).mono ?_;rintro e w' ⟨⟨y0,rfl⟩,hb'⟩;have nB_:=Mw ((HB.out.alloc HBS.out _).trans (hb'.mono (by simp;exact Nat.le_succ_of_le HBS.out)));clear HB;have HB:=nB_;clear nB_ hb'))
    go_ret2
    exact dh.bad HR3.out.symm HB.out
   rw [if_pos ⟨hroom,hn⟩] at hr3;have HR3:=Mw hr3;clear hr3 hroom hnn
   go_wp2_with (first | (go_at_call 107;refine kr.mono ?_;rintro e w' ⟨rfl,hS',hT'⟩;have nG_:=Mw (HGW.out.turn hT');have nO_:=Mw (gW HO.out HS.out.1 hT');have nB_:=Mw (HB.out.trans (hT'.below hbs));have nZ_:=Mw (show base<=w'.heap.size by rw [hT'.size];exact HBS.out);clear HO HS HB HBS HGW;have HO:=nO_;have HS:=Mw hS';have HB:=nB_;have HBS:=nZ_;have HGW:=nG_;clear nO_ nB_ nZ_ nG_ hS' hT') | ((with_reducible refine bD (b:=.append) (xs:=#[.tmp 112,.tmp 116]) rfl ?_);at_builtin;refine eI (w0:=w0) base rfl (.tmp 112) (.tmp 116) 26 5 .u8 1 rfl Tryz.underlying26 F.cS (by decide) _ _ _ rfl rfl HO.out HB.out HBS.out ?aL ?_;(case aL=>(have:=HLEN.out;(try simp only [My,Mz,MA]);omega));intro v_ w1 ho hb hg hat;have nG_:=Mw (HGW.out.app hg hat);have nS_:=Mw (HS.out.grown (base:=base) HO.out hg0 hg);have nB_:=Mw (Mx HBS.out hg.size);have n0_:=Mw ho;have n1_:=Mw hb;clear HO HB HS HBS HGW;have HO:=n0_;have HB:=n1_;have HS:=nS_;have HBS:=nB_;have HGW:=nG_;clear n0_ n1_ nS_ nB_ nG_ ho hb hg hat))
   go_ret2
   exact dh.fine (by rw [<- HR3.out]) HO.out HS.out HB.out HGW.out
  subst h2;have hr3:=HR.out;rw [eF,if_neg (by decide),if_pos rfl] at hr3;clear h3;by_cases hroom:p+7<=8*bs.length;rotate_left
  ·rw [if_neg (fun h=>hroom h.1)] at hr3;have HR3:=Mw hr3;have kb:=lS wr s g p 7 bs HS.out HP.out (by omega) HLN.out (by decide) (by decide);clear hr3 hroom
   go_wp2_with (first | (go_at_call 107;refine kb.mono ?_;rintro e w' ⟨⟨x0,rfl⟩,hb'⟩;have nB_:=Mw (HB.out.trans (hb'.mono HBS.out));have nZ_:=Mw (Mx HBS.out hb'.size);clear HO HS HB HBS;have HB:=nB_;have HBS:=nZ_;clear nB_ nZ_ hb') | (go_at_call 87;refine (jd _ 216 x0).mono ?_;rintro e w' ⟨⟨y0,rfl⟩,hb'⟩;have nB_:=Mw (HB.out.trans (hb'.mono HBS.out));clear HB;have HB:=nB_;clear nB_ hb'))
   go_ret2
   exact dh.bad HR3.out.symm HB.out
  have kr:=kQ wr s g p 7 bs HS.out hroom HLN.out (by decide) (by decide) HX.out;obtain⟨n,hnn⟩:∃ n,aq bs p 7=n:=⟨_,rfl⟩;rw [hnn] at kr hr3;have hn24:n<128:=by rw [<- hnn];exact gy _ _ _
  by_cases hn:n<100;rotate_left
  ·rw [if_neg (fun h=>hn h.2)] at hr3;have HR3:=Mw hr3;clear hr3 hroom hnn
   go_wp2_with (first | (go_at_call 107;refine kr.mono ?_;rintro e w' ⟨rfl,hS',hT'⟩;have nG_:=Mw (HGW.out.turn hT');have nO_:=Mw (gW HO.out HS.out.1 hT');have nB_:=Mw (HB.out.trans (hT'.below hbs));have nZ_:=Mw (show base<=w'.heap.size by rw [hT'.size];exact HBS.out);clear HO HS HB HBS HGW;have HO:=nO_;have HS:=Mw hS';have HB:=nB_;have HBS:=nZ_;have HGW:=nG_;clear nO_ nB_ nZ_ nG_ hS' hT') | (go_at_call 89;refine (pt _ _).mono ?_;rintro e w' ⟨⟨y0,rfl⟩,hb'⟩;have nB_:=Mw ((HB.out.alloc HBS.out _).trans (hb'.mono (by simp;exact Nat.le_succ_of_le HBS.out)));clear HB;have HB:=nB_;clear nB_ hb'))
   go_ret2
   exact dh.bad HR3.out.symm HB.out
  rw [if_pos ⟨hroom,hn⟩] at hr3;have HR3:=Mw hr3;clear hr3 hroom hnn
  go_wp2_with (first | (go_at_call 107;refine kr.mono ?_;rintro e w' ⟨rfl,hS',hT'⟩;have nG_:=Mw (HGW.out.turn hT');have nO_:=Mw (gW HO.out HS.out.1 hT');have nB_:=Mw (HB.out.trans (hT'.below hbs));have nZ_:=Mw (show base<=w'.heap.size by rw [hT'.size];exact HBS.out);clear HO HS HB HBS HGW;have HO:=nO_;have HS:=Mw hS';have HB:=nB_;have HBS:=nZ_;have HGW:=nG_;clear nO_ nB_ nZ_ nG_ hS' hT') | ((with_reducible refine bD (b:=.append) (xs:=#[.tmp 78,.tmp 83]) rfl ?_);at_builtin;refine eI (w0:=w0) base rfl (.tmp 78) (.tmp 83) 26 5 .u8 1 rfl Tryz.underlying26 F.cS (by decide) _ _ _ rfl rfl HO.out HB.out HBS.out ?aL ?_;(case aL=>(have:=HLEN.out;(try simp only [My,Mz,MA]);omega));intro v_ w1 ho hb hg hat;have nG_:=Mw (HGW.out.app hg hat);have nS_:=Mw (HS.out.grown (base:=base) HO.out hg0 hg);have nB_:=Mw (Mx HBS.out hg.size);have n0_:=Mw ho;have n1_:=Mw hb;clear HO HB HS HBS HGW;have HO:=n0_;have HB:=n1_;have HS:=nS_;have HBS:=nB_;have HGW:=nG_;clear n0_ n1_ nS_ nB_ nG_ ho hb hg hat) | ((with_reducible refine bD (b:=.append) (xs:=#[.tmp 85,.tmp 90]) rfl ?_);at_builtin;refine eI (w0:=w0) base rfl (.tmp 85) (.tmp 90) 26 5 .u8 1 rfl Tryz.underlying26 F.cS (by decide) _ _ _ rfl rfl HO.out HB.out HBS.out ?aL ?_;(case aL=>(have:=HLEN.out;(try simp only [My,Mz,MA]);omega));intro v_ w1 ho hb hg hat;have nG_:=Mw (HGW.out.app hg hat);have nS_:=Mw (HS.out.grown (base:=base) HO.out hg0 hg);have nB_:=Mw (Mx HBS.out hg.size);have n0_:=Mw ho;have n1_:=Mw hb;clear HO HB HS HBS HGW;have HO:=n0_;have HB:=n1_;have HS:=nS_;have HBS:=nB_;have HGW:=nG_;clear n0_ n1_ nS_ nB_ nG_ ho hb hg hat))
  go_ret2
  exact dh.fine (by rw [<- HR3.out];simp) HO.out HS.out HB.out HGW.out
end Go.Proofs.YtgccjgpdjkhpdaaGreat.B
