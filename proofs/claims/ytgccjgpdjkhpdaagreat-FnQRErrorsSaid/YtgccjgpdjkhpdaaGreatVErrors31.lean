import Derived.Test.YtgccjgpdjkhpdaaGreatVErrors30
open Go.Proofs.YtgccjgpdjkhpdaaGreatW.PrintWords.Aside0 renaming mk→Mw
open List renaming length_cons→Mx,length_nil→My
/-! Own texts of this claim, part 31. -/
namespace Go.Proofs.YtgccjgpdjkhpdaaGreat.B
open Go.RowKit Go.Proofs.YtgccjgpdjkhpdaaGreatW.PrintWords Go.Proofs.YtgccjgpdjkhpdaaGreatW.PrintLast Go.Proofs.YtgccjgpdjkhpdaaGreatW.PrintMore
set_option linter.unusedVariables false
set_option linter.unusedSimpArgs false
set_option maxHeartbeats 4000000 in
set_option maxRecDepth 8000 in
theorem Ha (w0 w:World)(v:Value)(xs:List Bool)(A:Option Addr)(c n:Nat)(t:List Int)(hn:t.length=n)(hc:n<=c)(hT:Kd.C (Kd.int .u8) w0 A n t)(hB:Below w0.heap.size w0 w)(hO:cJ w w0.heap.size v xs)(hz:w0.heap.size<=w.heap.size)(hby:∀ x∈t,bn x<45)(hl:xs.length+8*n<=9000000) :
  Calls Tryz.prog 123 #[v,.agg #[.int .i64 2,.slice A n c]] w fun e w'=>∃ v',e=.returned v'/\cJ w' w0.heap.size v' (xs++cK t)/\Below w0.heap.size w0 w'/\eS w w' v v':=by
 obtain⟨w1,hw1⟩:∃ w1,w1=w.alloc (.cells #[.int .i64 2,.slice A n c] 98):=⟨_,rfl⟩;have HW:=Mw hw1;have HM:=Mw (show jv w0 w w1 v v xs w.heap.size #[.int .i64 2,.slice A n c] by
  rw [hw1];exact⟨ei hO fun k hk=>by obtain⟨cs,hb⟩:=eM hO k hk;exact Below.heap_alloc w _ k hb.lt,hB.alloc hz _,by simp;omega,(eS.refl w v).below (ai (Below.refl _ _) _),Blk.new _ _ _⟩)
 have HT:=Mw (show ∀ W,Below w0.heap.size w0 W->cA W .u8 A n t from fun W hb=>Kd.mq (Kd.bB hT hb));have HN:=Mw hn;have HBY:=Mw hby;have HL:=Mw (show (xs++cK t).length<=9000000 by have:=zq t;rw [List.length_append];omega)
 have c0:=HM.out.box.cell 0;have c1:=HM.out.box.cell 1;clear hw1 hT hB hO hn hby hl
 go_enter Tryz.func123,Tryz.ntmps123
 go_wp2_with fail
 rw [<- HW.out]
 go_wp2_with fail
 clear c0 c1
 go_loopw [0,5] (fun v0 v5 wr=>∃ (A':Option Addr) (n' c':Nat) (t':List Int) (ys:List Bool),v5=.slice A' n' c'/\n'<=n/\n'<=c'/\Aside0 (t'.length=n')/\Aside0 (∀ W,Below w0.heap.size w0 W->cA W .u8 A' n' t')/\Aside0 (jv w0 w wr v v0 ys w.heap.size #[.int .i64 2,.slice A n c])/\Aside0 (ys++cK t'=xs++cK t)/\Aside0 (∀ x∈t',bn x<45)) (fun _ v5 _=>(fR v5).toNat)
 case atStart=>exact⟨A,n,c,t,xs,rfl,Nat.le_refl _,hc,HN,HT,HM,⟨rfl⟩,HBY⟩
 case round=>
  clear HT HM HN HBY hc;obtain⟨A',n',c',t',ys,rfl,hnn,hcc,HN,HT,HM,HE,HBY⟩:=hrel;have c0:=HM.out.box.cell 0;have hyl:Aside0 (ys.length<=9000000):=⟨by have h1:=congrArg List.length HE.out;rw [List.length_append] at h1;have h2:=HL.out;omega⟩
  by_cases h0:n'=0
  ·subst h0;have HE2:=Mw (show ys=xs++cK t by rw [<- HE.out,List.eq_nil_of_length_eq_zero HN.out];simp [cK])
   go_wp2
   go_ret
   exact⟨_,rfl,by rw [<- HE2.out];exact HM.out.own,HM.out.bel,HM.out.gr⟩
  by_cases ht0:2<=n';rotate_left
  ·obtain⟨xa,l,hxl,hle⟩:∃ xa l,t'=xa :: l/\l=[]:=by
    have hq:=HN.out
    match t',hq with
    | [],hq=>exact absurd hq (by simp only [Mx,My];omega)
    | _ :: _,hq=>exact⟨_,_,rfl,List.eq_nil_of_length_eq_zero (by simp only [Mx,My] at hq;omega)⟩
   subst hxl;obtain⟨m,hm⟩:∃ m,l.length=m:=⟨_,rfl⟩;have hmn:n'=m+1:=by have:=HN.out;simp only [Mx,My] at this;omega
   obtain⟨A2,c2,hsl,hrd,hc2⟩:=nK A' n' m c' 1 (xa :: l) l HN.out hm rfl (by omega) hcc;have hr:=HT.out _ HM.out.bel;obtain⟨ad,e0,hcell⟩:=hr.2.2 (by omega);have r0:=hcell 0 (by omega);rw [show (xa :: l).getD 0 0=xa from rfl] at r0;have q0:wr.cell? ad=some (.int .u8 xa):=by rw [<- r0];unfold Addr.add;simp
   subst e0;rw [show (((1:Nat):Int))=1 from rfl] at hsl;have hxa:=HBY.out xa (by simp);obtain⟨N,hN⟩:∃ N,bn xa=N:=⟨_,rfl⟩;have kalda:∀ W,Calls Tryz.prog 100 #[.int .u8 xa] W fun e w'=>e=.returned (.int .i64 (N:Int))/\W=w':=fun W=>by rw [<- hN];exact pa W xa hxa
   have hN9:N<45:=by rw [<- hN];exact hxa
   have HE2:=Mw (show (ys++aD N 6)++cK l=xs++cK t by rw [<- HE.out,hle,cK,hN,cK,List.append_nil]);clear hN;have HRD:=Mw hrd;have HLM:=Mw hm;have HBY2:=Mw (show ∀ x∈l,bn x<45 from fun x hx=>HBY.out x (by simp [hx]));have hmn1:m<n':=by omega
   have HMd:=Mw HM.out.drew;have kad:=nL (n:=N) (k:=6) (a:=(N:Int)) (b:=6) HMd.out rfl rfl (by omega) (by decide) (by have:=hyl.out;omega)
   clear hmn hrd hm hr hcell hxa
   go_wp2_with fail
   go_region_with (first | (go_at_call 66;with_reducible (refine kad.mono ?_);rintro e w2 ⟨v2,rfl,hM2⟩;have HM2:=Mw hM2;clear hM2) | (go_at_call 100;with_reducible (refine (kalda _).mono ?_);rintro e w2 ⟨rfl,rfl⟩))
   all_goals
    clear kalda hsl r0 q0
    go_wp2
    go_roundw
    case rel=>
     first
      | exact⟨A2,m,c2,l,_,rfl,by omega,hc2,HLM,⟨fun W hb=>HRD.out W (HT.out W hb)⟩,HM2,HE2,HBY2⟩
      | ((repeat apply Exists.intro);exact⟨⟨A2,m,c2,l,_,rfl,by omega,hc2,HLM,⟨fun W hb=>HRD.out W (HT.out W hb)⟩,HM2,HE2,HBY2⟩,rfl⟩)
    case measure=>(show ((m:Int)).toNat<((n':Int)).toNat;omega)
  obtain⟨xa,xb,l,hxl,hle⟩:∃ xa xb l,t'=xa :: xb :: l/\True:=by
   have hq:=HN.out
   match t',hq with
   | [],hq=>exact absurd hq (by simp only [Mx,My];omega)
   | [_],hq=>exact absurd hq (by simp only [Mx,My];omega)
   | _ :: _ :: _,hq=>exact⟨_,_,_,rfl,trivial⟩
  subst hxl;obtain⟨m,hm⟩:∃ m,l.length=m:=⟨_,rfl⟩;have hmn:n'=m+2:=by have:=HN.out;simp only [Mx,My] at this;omega
  obtain⟨A2,c2,hsl,hrd,hc2⟩:=nK A' n' m c' 2 (xa :: xb :: l) l HN.out hm rfl (by omega) hcc;have hr:=HT.out _ HM.out.bel;obtain⟨ad,e0,hcell⟩:=hr.2.2 (by omega);have r0:=hcell 0 (by omega);rw [show (xa :: xb :: l).getD 0 0=xa from rfl] at r0;have q0:wr.cell? ad=some (.int .u8 xa):=by rw [<- r0];unfold Addr.add;simp
  have r1:=hcell 1 (by omega);rw [show (xa :: xb :: l).getD 1 0=xb from rfl] at r1;have q1:=r1;rw [rF ad 1 (by decide)] at q1;subst e0;have hbd1:(1:Int)<(n':Int):=by omega
  have hbn1:1<n':=by omega
  rw [show (((2:Nat):Int))=2 from rfl] at hsl;have hxa:=HBY.out xa (by simp);have hxb:=HBY.out xb (by simp);obtain⟨da,hda⟩:∃ da,bn xa=da:=⟨_,rfl⟩;have kalda:∀ W,Calls Tryz.prog 100 #[.int .u8 xa] W fun e w'=>e=.returned (.int .i64 (da:Int))/\W=w':=fun W=>by rw [<- hda];exact pa W xa hxa
  have hda9:da<45:=by rw [<- hda];exact hxa
  obtain⟨db,hdb⟩:∃ db,bn xb=db:=⟨_,rfl⟩;have kaldb:∀ W,Calls Tryz.prog 100 #[.int .u8 xb] W fun e w'=>e=.returned (.int .i64 (db:Int))/\W=w':=fun W=>by rw [<- hdb];exact pa W xb hxb
  have hdb9:db<45:=by rw [<- hdb];exact hxb
  obtain⟨D1,hD1⟩:∃ D1,da*45=D1:=⟨_,rfl⟩;obtain⟨N,hN⟩:∃ N,D1+db=N:=⟨_,rfl⟩;have hNN:bn xa*45+bn xb=N:=by rw [hda,hdb];omega
  have HE2:=Mw (show (ys++aD N 11)++cK l=xs++cK t by rw [<- HE.out,cK,hNN,List.append_assoc]);clear hda hdb hNN;have HRD:=Mw hrd;have HLM:=Mw hm;have HBY2:=Mw (show ∀ x∈l,bn x<45 from fun x hx=>HBY.out x (by simp [hx]));have hmn1:m<n':=by omega
  have HMd:=Mw HM.out.drew;have kad:=nL (n:=N) (k:=11) (a:=(N:Int)) (b:=11) HMd.out rfl rfl (by omega) (by decide) (by have:=hyl.out;omega)
  clear hmn hrd hm hr hcell hxa hxb
  go_wp2_with fail
  have km0:IntKind.i64.wrap ((da:Int)*45)=(D1:Int):=by rw [IntWalk.i64_in _ (by omega)];omega
  have ks1:IntKind.i64.wrap ((D1:Int)+(db:Int))=(N:Int):=by rw [IntWalk.i64_in _ (by omega)];omega
  go_region_with (first | (go_at_call 66;with_reducible (refine kad.mono ?_);rintro e w2 ⟨v2,rfl,hM2⟩;have HM2:=Mw hM2;clear hM2) | (go_at_call 100;with_reducible (refine (kalda _).mono ?_);rintro e w2 ⟨rfl,rfl⟩) | (go_at_call 100;with_reducible (refine (kaldb _).mono ?_);rintro e w2 ⟨rfl,rfl⟩))
  all_goals
   clear kalda kaldb km0 ks1 hsl r0 q0 r1 q1
   go_wp2
   go_roundw
   case rel=>
    first
     | exact⟨A2,m,c2,l,_,rfl,by omega,hc2,HLM,⟨fun W hb=>HRD.out W (HT.out W hb)⟩,HM2,HE2,HBY2⟩
     | ((repeat apply Exists.intro);exact⟨⟨A2,m,c2,l,_,rfl,by omega,hc2,HLM,⟨fun W hb=>HRD.out W (HT.out W hb)⟩,HM2,HE2,HBY2⟩,rfl⟩)
   case measure=>(show ((m:Int)).toNat<((n':Int)).toNat;omega)
end Go.Proofs.YtgccjgpdjkhpdaaGreat.B
