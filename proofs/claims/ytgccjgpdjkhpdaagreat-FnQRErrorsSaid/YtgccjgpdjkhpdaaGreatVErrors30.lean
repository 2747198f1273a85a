import Derived.Test.YtgccjgpdjkhpdaaGreatVErrors29
open Go.Proofs.YtgccjgpdjkhpdaaGreatW.PrintWords.Aside0 renaming mk→Mw
open List renaming length_cons→Mx,length_nil→My,length_append→Mz,eq_nil_of_length_eq_zero→MA
/-! Own texts of this claim, part 30. -/
namespace Go.Proofs.YtgccjgpdjkhpdaaGreat.B
open Go.RowKit Go.Proofs.YtgccjgpdjkhpdaaGreatW.PrintWords Go.Proofs.YtgccjgpdjkhpdaaGreatW.PrintLast Go.Proofs.YtgccjgpdjkhpdaaGreatW.PrintMore
set_option linter.unusedVariables false
set_option linter.unusedSimpArgs false
theorem rF (ad:Addr)(j:Nat)(h:0<j):ad.add j=⟨ad.block,ad.off+j,none⟩:=by unfold Addr.add;rw [if_neg (by omega)]
theorem zo (t:List Int):(bH t).length<=4*t.length:=by
 induction t using bH.induct with
 | case1 a b c l ih=>rw [bH,Mz,bV];simp;omega
 | case2 a b=>rw [bH,bV];simp
 | case3 a=>rw [bH,bV];simp
 | case4=>simp [bH]
theorem zq (t:List Int):(cK t).length<=6*t.length:=by
 induction t using cK.induct with
 | case1 a b l ih=>rw [cK,Mz,bV];simp;omega
 | case2 a=>rw [cK,bV];simp
 | case3=>simp [cK]
set_option maxHeartbeats 4000000 in
set_option maxRecDepth 8000 in
theorem G9 (w0 w:World)(v:Value)(xs:List Bool)(A:Option Addr)(c n:Nat)(t:List Int)(hn:t.length=n)(hc:n<=c)(hT:Kd.C (Kd.int .u8) w0 A n t)(hB:Below w0.heap.size w0 w)(hO:cJ w w0.heap.size v xs)(hz:w0.heap.size<=w.heap.size)(hby:∀ x∈t,jV x)(hl:xs.length+8*n<=9000000) :
  Calls Tryz.prog 123 #[v,.agg #[.int .i64 1,.slice A n c]] w fun e w'=>∃ v',e=.returned v'/\cJ w' w0.heap.size v' (xs++bH t)/\Below w0.heap.size w0 w'/\eS w w' v v':=by
 obtain⟨w1,hw1⟩:∃ w1,w1=w.alloc (.cells #[.int .i64 1,.slice A n c] 98):=⟨_,rfl⟩;have HW:=Mw hw1;have HM:=Mw (show jv w0 w w1 v v xs w.heap.size #[.int .i64 1,.slice A n c] by
  rw [hw1];exact⟨ei hO fun k hk=>by obtain⟨cs,hb⟩:=eM hO k hk;exact Below.heap_alloc w _ k hb.lt,hB.alloc hz _,by simp;omega,(eS.refl w v).below (ai (Below.refl _ _) _),Blk.new _ _ _⟩)
 have HT:=Mw (show ∀ W,Below w0.heap.size w0 W->cA W .u8 A n t from fun W hb=>Kd.mq (Kd.bB hT hb));have HN:=Mw hn;have HBY:=Mw hby;have HL:=Mw (show (xs++bH t).length<=9000000 by have:=zo t;rw [Mz];omega)
 have c0:=HM.out.box.cell 0;have c1:=HM.out.box.cell 1;clear hw1 hT hB hO hn hby hl
 go_enter Tryz.func123,Tryz.ntmps123
 go_wp2_with fail
 rw [<- HW.out]
 go_wp2_with fail
 clear c0 c1
 go_loopw [0,5] (fun v0 v5 wr=>∃ (A':Option Addr) (n' c':Nat) (t':List Int) (ys:List Bool),v5=.slice A' n' c'/\n'<=n/\n'<=c'/\Aside0 (t'.length=n')/\Aside0 (∀ W,Below w0.heap.size w0 W->cA W .u8 A' n' t')/\Aside0 (jv w0 w wr v v0 ys w.heap.size #[.int .i64 1,.slice A n c])/\Aside0 (ys++bH t'=xs++bH t)/\Aside0 (∀ x∈t',jV x)) (fun _ v5 _=>(fR v5).toNat)
 case atStart=>exact⟨A,n,c,t,xs,rfl,Nat.le_refl _,hc,HN,HT,HM,⟨rfl⟩,HBY⟩
 case round=>
  clear HT HM HN HBY hc;obtain⟨A',n',c',t',ys,rfl,hnn,hcc,HN,HT,HM,HE,HBY⟩:=hrel;have c0:=HM.out.box.cell 0;have hyl:Aside0 (ys.length<=9000000):=⟨by have h1:=congrArg List.length HE.out;rw [Mz] at h1;have h2:=HL.out;omega⟩
  by_cases h0:n'=0
  ·subst h0;have HE2:=Mw (show ys=xs++bH t by rw [<- HE.out,MA HN.out];simp [bH])
   go_wp2
   go_ret
   exact⟨_,rfl,by rw [<- HE2.out];exact HM.out.own,HM.out.bel,HM.out.gr⟩
  by_cases ht0:3<=n'
  ·obtain⟨xa,xb,xc,l,hxl,hle⟩:∃ xa xb xc l,t'=xa :: xb :: xc :: l/\True:=by
    have hq:=HN.out
    match t',hq with
    | [],hq=>exact absurd hq (by simp only [Mx,My];omega)
    | [_],hq=>exact absurd hq (by simp only [Mx,My];omega)
    | [_,_],hq=>exact absurd hq (by simp only [Mx,My];omega)
    | _ :: _ :: _ :: _,hq=>exact⟨_,_,_,_,rfl,trivial⟩
   subst hxl;obtain⟨m,hm⟩:∃ m,l.length=m:=⟨_,rfl⟩;have hmn:n'=m+3:=by have:=HN.out;simp only [Mx,My] at this;omega
   obtain⟨A2,c2,hsl,hrd,hc2⟩:=nK A' n' m c' 3 (xa :: xb :: xc :: l) l HN.out hm rfl (by omega) hcc;have hr:=HT.out _ HM.out.bel;obtain⟨ad,e0,hcell⟩:=hr.2.2 (by omega);have r0:=hcell 0 (by omega);rw [show (xa :: xb :: xc :: l).getD 0 0=xa from rfl] at r0;have q0:wr.cell? ad=some (.int .u8 xa):=by rw [<- r0];unfold Addr.add;simp
   have r1:=hcell 1 (by omega);rw [show (xa :: xb :: xc :: l).getD 1 0=xb from rfl] at r1;have q1:=r1;rw [rF ad 1 (by decide)] at q1;have r2:=hcell 2 (by omega);rw [show (xa :: xb :: xc :: l).getD 2 0=xc from rfl] at r2;have q2:=r2;rw [rF ad 2 (by decide)] at q2;subst e0;have hbd1:(1:Int)<(n':Int):=by omega
   have hbn1:1<n':=by omega
   have hbd2:(2:Int)<(n':Int):=by omega
   have hbn2:2<n':=by omega
   rw [show (((3:Nat):Int))=3 from rfl] at hsl;have hxa:=HBY.out xa (by simp);have hxb:=HBY.out xb (by simp);have hxc:=HBY.out xc (by simp);obtain⟨da,hda⟩:∃ da:Nat,xa=48+(da:Int):=⟨(xa-48).toNat,by have:=hxa.1;omega⟩
   have hda9:da<=9:=by have:=hxa.2;omega
   obtain⟨db,hdb⟩:∃ db:Nat,xb=48+(db:Int):=⟨(xb-48).toNat,by have:=hxb.1;omega⟩
   have hdb9:db<=9:=by have:=hxb.2;omega
   obtain⟨dc,hdc⟩:∃ dc:Nat,xc=48+(dc:Int):=⟨(xc-48).toNat,by have:=hxc.1;omega⟩
   have hdc9:dc<=9:=by have:=hxc.2;omega
   obtain⟨N,hN⟩:∃ N,da*100+db*10+dc=N:=⟨_,rfl⟩;have hNN:((xa-48)*100+(xb-48)*10+(xc-48)).toNat=N:=by omega
   have HE2:=Mw (show (ys++aD N 10)++bH l=xs++bH t by rw [<- HE.out,bH,hNN,List.append_assoc]);subst hda;subst hdb;subst hdc;obtain⟨D1,hD1⟩:∃ D1,da*100=D1:=⟨_,rfl⟩;obtain⟨D2,hD2⟩:∃ D2,db*10=D2:=⟨_,rfl⟩;obtain⟨D3,hD3⟩:∃ D3,D1+D2=D3:=⟨_,rfl⟩;have HRD:=Mw hrd;have HLM:=Mw hm;have HBY2:=Mw (show ∀ x∈l,jV x from fun x hx=>HBY.out x (by simp [hx]));have hmn1:m<n':=by omega
   have HMd:=Mw HM.out.drew;have kad:=nL (n:=N) (k:=10) (a:=(N:Int)) (b:=10) HMd.out rfl rfl (by omega) (by decide) (by have:=hyl.out;omega)
   clear hmn hrd hm hr hcell hxa hxb hxc
   go_wp2_with fail
   have ku0:IntKind.u8.wrap (48+(da:Int)-48)=(da:Int):=by rw [IntWalk.u8_in _ (by omega)];omega
   have ki0:IntKind.i64.wrap (da:Int)=(da:Int):=IntWalk.i64_in _ (by omega);have ku1:IntKind.u8.wrap (48+(db:Int)-48)=(db:Int):=by rw [IntWalk.u8_in _ (by omega)];omega
   have ki1:IntKind.i64.wrap (db:Int)=(db:Int):=IntWalk.i64_in _ (by omega);have ku2:IntKind.u8.wrap (48+(dc:Int)-48)=(dc:Int):=by rw [IntWalk.u8_in _ (by omega)];omega
   have ki2:IntKind.i64.wrap (dc:Int)=(dc:Int):=IntWalk.i64_in _ (by omega);have km0:IntKind.i64.wrap ((da:Int)*100)=(D1:Int):=by rw [IntWalk.i64_in _ (by omega)];omega
   have km1:IntKind.i64.wrap ((db:Int)*10)=(D2:Int):=by rw [IntWalk.i64_in _ (by omega)];omega
   have ks1:IntKind.i64.wrap ((D1:Int)+(D2:Int))=(D3:Int):=by rw [IntWalk.i64_in _ (by omega)];omega
   have ks2:IntKind.i64.wrap ((D3:Int)+(dc:Int))=(N:Int):=by rw [IntWalk.i64_in _ (by omega)];omega
   go_region_with (go_at_call 66;with_reducible (refine kad.mono ?_);rintro e w2 ⟨v2,rfl,hM2⟩;have HM2:=Mw hM2;clear hM2)
   all_goals
    clear ku0 ki0 ku1 ki1 ku2 ki2 km0 km1 ks1 ks2 hsl r0 q0 r1 q1 r2 q2
    go_wp2
    go_roundw
    case rel=>
     first
      | exact⟨A2,m,c2,l,_,rfl,by omega,hc2,HLM,⟨fun W hb=>HRD.out W (HT.out W hb)⟩,HM2,HE2,HBY2⟩
      | ((repeat apply Exists.intro);exact⟨⟨A2,m,c2,l,_,rfl,by omega,hc2,HLM,⟨fun W hb=>HRD.out W (HT.out W hb)⟩,HM2,HE2,HBY2⟩,rfl⟩)
    case measure=>(show ((m:Int)).toNat<((n':Int)).toNat;omega)
  by_cases ht1:n'=2;rotate_left
  ·obtain⟨xa,l,hxl,hle⟩:∃ xa l,t'=xa :: l/\l=[]:=by
    have hq:=HN.out
    match t',hq with
    | [],hq=>exact absurd hq (by simp only [Mx,My];omega)
    | _ :: _,hq=>exact⟨_,_,rfl,MA (by simp only [Mx,My] at hq;omega)⟩
   subst hxl;obtain⟨m,hm⟩:∃ m,l.length=m:=⟨_,rfl⟩;have hmn:n'=m+1:=by have:=HN.out;simp only [Mx,My] at this;omega
   obtain⟨A2,c2,hsl,hrd,hc2⟩:=nK A' n' m c' 1 (xa :: l) l HN.out hm rfl (by omega) hcc;have hr:=HT.out _ HM.out.bel;obtain⟨ad,e0,hcell⟩:=hr.2.2 (by omega);have r0:=hcell 0 (by omega);rw [show (xa :: l).getD 0 0=xa from rfl] at r0;have q0:wr.cell? ad=some (.int .u8 xa):=by rw [<- r0];unfold Addr.add;simp
   subst e0;rw [show (((1:Nat):Int))=1 from rfl] at hsl;have hxa:=HBY.out xa (by simp);obtain⟨N,hN⟩:∃ N:Nat,xa=48+(N:Int):=⟨(xa-48).toNat,by have:=hxa.1;omega⟩
   have hN9:N<=9:=by have:=hxa.2;omega
   have hNN:(xa-48).toNat=N:=by omega
   have HE2:=Mw (show (ys++aD N 4)++bH l=xs++bH t by rw [<- HE.out,hle,bH,hNN,bH,List.append_nil]);subst hN;have HRD:=Mw hrd;have HLM:=Mw hm;have HBY2:=Mw (show ∀ x∈l,jV x from fun x hx=>HBY.out x (by simp [hx]));have hmn1:m<n':=by omega
   have HMd:=Mw HM.out.drew;have kad:=nL (n:=N) (k:=4) (a:=(N:Int)) (b:=4) HMd.out rfl rfl (by omega) (by decide) (by have:=hyl.out;omega)
   clear hmn hrd hm hr hcell hxa
   go_wp2_with fail
   have ku0:IntKind.u8.wrap (48+(N:Int)-48)=(N:Int):=by rw [IntWalk.u8_in _ (by omega)];omega
   have ki0:IntKind.i64.wrap (N:Int)=(N:Int):=IntWalk.i64_in _ (by omega)
   go_region_with (go_at_call 66;with_reducible (refine kad.mono ?_);rintro e w2 ⟨v2,rfl,hM2⟩;have HM2:=Mw hM2;clear hM2)
   all_goals
    clear ku0 ki0 hsl r0 q0
    go_wp2
    go_roundw
    case rel=>
     first
      | exact⟨A2,m,c2,l,_,rfl,by omega,hc2,HLM,⟨fun W hb=>HRD.out W (HT.out W hb)⟩,HM2,HE2,HBY2⟩
      | ((repeat apply Exists.intro);exact⟨⟨A2,m,c2,l,_,rfl,by omega,hc2,HLM,⟨fun W hb=>HRD.out W (HT.out W hb)⟩,HM2,HE2,HBY2⟩,rfl⟩)
    case measure=>(show ((m:Int)).toNat<((n':Int)).toNat;omega)
  subst ht1;obtain⟨xa,xb,l,hxl,hle⟩:∃ xa xb l,t'=xa :: xb :: l/\l=[]:=by
   have hq:=HN.out
   match t',hq with
   | [],hq=>exact absurd hq (by simp only [Mx,My];omega)
   | [_],hq=>exact absurd hq (by simp only [Mx,My];omega)
   | _ :: _ :: _,hq=>exact⟨_,_,_,rfl,MA (by simp only [Mx,My] at hq;omega)⟩
  subst hxl;obtain⟨m,hm⟩:∃ m,l.length=m:=⟨_,rfl⟩;have hmn:2=m+2:=by have:=HN.out;simp only [Mx,My] at this;omega
  obtain⟨A2,c2,hsl,hrd,hc2⟩:=nK A' 2 m c' 2 (xa :: xb :: l) l HN.out hm rfl (by omega) hcc;have hr:=HT.out _ HM.out.bel;obtain⟨ad,e0,hcell⟩:=hr.2.2 (by omega);have r0:=hcell 0 (by omega);rw [show (xa :: xb :: l).getD 0 0=xa from rfl] at r0;have q0:wr.cell? ad=some (.int .u8 xa):=by rw [<- r0];unfold Addr.add;simp
  have r1:=hcell 1 (by omega);rw [show (xa :: xb :: l).getD 1 0=xb from rfl] at r1;have q1:=r1;rw [rF ad 1 (by decide)] at q1;subst e0;have hbd1:(1:Int)<(2:Int):=by omega
  have hbn1:1<2:=by omega
  rw [show (((2:Nat):Int))=2 from rfl] at hsl;have hxa:=HBY.out xa (by simp);have hxb:=HBY.out xb (by simp);obtain⟨da,hda⟩:∃ da:Nat,xa=48+(da:Int):=⟨(xa-48).toNat,by have:=hxa.1;omega⟩
  have hda9:da<=9:=by have:=hxa.2;omega
  obtain⟨db,hdb⟩:∃ db:Nat,xb=48+(db:Int):=⟨(xb-48).toNat,by have:=hxb.1;omega⟩
  have hdb9:db<=9:=by have:=hxb.2;omega
  obtain⟨N,hN⟩:∃ N,da*10+db=N:=⟨_,rfl⟩;have hNN:((xa-48)*10+(xb-48)).toNat=N:=by omega
  have HE2:=Mw (show (ys++aD N 7)++bH l=xs++bH t by rw [<- HE.out,hle,bH,hNN,bH,List.append_nil]);subst hda;subst hdb;obtain⟨D1,hD1⟩:∃ D1,da*10=D1:=⟨_,rfl⟩;have HRD:=Mw hrd;have HLM:=Mw hm;have HBY2:=Mw (show ∀ x∈l,jV x from fun x hx=>HBY.out x (by simp [hx]));have hmn1:m<2:=by omega
  have HMd:=Mw HM.out.drew;have kad:=nL (n:=N) (k:=7) (a:=(N:Int)) (b:=7) HMd.out rfl rfl (by omega) (by decide) (by have:=hyl.out;omega)
  clear hmn hrd hm hr hcell hxa hxb
  go_wp2_with fail
  have ku0:IntKind.u8.wrap (48+(da:Int)-48)=(da:Int):=by rw [IntWalk.u8_in _ (by omega)];omega
  have ki0:IntKind.i64.wrap (da:Int)=(da:Int):=IntWalk.i64_in _ (by omega);have ku1:IntKind.u8.wrap (48+(db:Int)-48)=(db:Int):=by rw [IntWalk.u8_in _ (by omega)];omega
  have ki1:IntKind.i64.wrap (db:Int)=(db:Int):=IntWalk.i64_in _ (by omega);have km0:IntKind.i64.wrap ((da:Int)*10)=(D1:Int):=by rw [IntWalk.i64_in _ (by omega)];omega
  have ks1:IntKind.i64.wrap ((D1:Int)+(db:Int))=(N:Int):=by rw [IntWalk.i64_in _ (by omega)];omega
  go_region_with (go_at_call 66;with_reducible (refine kad.mono ?_);rintro e w2 ⟨v2,rfl,hM2⟩;have HM2:=Mw hM2;clear hM2)
  all_goals
   clear ku0 ki0 ku1 ki1 km0 ks1 hsl r0 q0 r1 q1
   go_wp2
   go_roundw
   case rel=>
    first
     | exact⟨A2,m,c2,l,_,rfl,by omega,hc2,HLM,⟨fun W hb=>HRD.out W (HT.out W hb)⟩,HM2,HE2,HBY2⟩
     | ((repeat apply Exists.intro);exact⟨⟨A2,m,c2,l,_,rfl,by omega,hc2,HLM,⟨fun W hb=>HRD.out W (HT.out W hb)⟩,HM2,HE2,HBY2⟩,rfl⟩)
   case measure=>(show ((m:Int)).toNat<((2:Int)).toNat;omega)
end Go.Proofs.YtgccjgpdjkhpdaaGreat.B
