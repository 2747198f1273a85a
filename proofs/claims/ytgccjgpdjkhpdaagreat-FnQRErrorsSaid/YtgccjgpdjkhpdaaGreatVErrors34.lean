import Derived.Test.YtgccjgpdjkhpdaaGreatVErrors33
open Go.Proofs.YtgccjgpdjkhpdaaGreatW.PrintWords.Aside0 renaming mk→Mw
open List renaming append_assoc→Mx,append_nil→Mz,length_append→MA,getD_eq_getElem?_getD→MC,getElem?_eq_getElem→ME
open Nat renaming le_refl→My
open Int renaming natCast_add→MB
open Array renaming getElem?_toList→MD
/-! Own texts of this claim, part 34. -/
namespace Go.Proofs.YtgccjgpdjkhpdaaGreat.B
open Go.RowKit Go.Proofs.YtgccjgpdjkhpdaaGreatW.PrintWords Go.Proofs.YtgccjgpdjkhpdaaGreatW.PrintLast Go.Proofs.YtgccjgpdjkhpdaaGreatW.PrintMore
set_option linter.unusedVariables false
set_option linter.unusedSimpArgs false
theorem rQ:(Tryz.prog.info? 118).map (fun i=>(i.zero,i.size,i.bytes))=some (some (.agg #[.int .i64 0,.int .i64 0]),2,16):=by kernel_rfl
def dH (xs:List (Nat×Nat)):List Value:=xs.flatMap fun p=>[.int .i64 (p.1:Int),.int .i64 (p.2:Int)]
theorem rR (xs:List (Nat×Nat))(p:Nat×Nat):dH (xs++[p])=dH xs++[.int .i64 (p.1:Int),.int .i64 (p.2:Int)]:=by
 unfold dH;rw [List.flatMap_append];simp
theorem Jg (w:World)(v:Nat)(hv:1<=v/\v<=40):Calls Tryz.prog 46 #[.int .i64 (v:Int)] w fun e w'=>e=.returned (.int .i64 ((17+4*v:Nat):Int))/\Below w.heap.size w w':=by
 have h:=mC (v:Int) (by omega);refine (F.dI.calls v _ w h).mono ?_;rintro e w' ⟨rfl,hb⟩;exact⟨rfl,hb.below⟩
def bc (g:Nat->Nat->Bool)(rt r j:Nat):List (Nat×Nat):=([(r,rt),(r,rt-1)].take j).filter fun p=>!g p.2 p.1
theorem zW (g:Nat->Nat->Bool)(rt r:Nat):bc g rt r 2=jx g rt r:=rfl
theorem rS (g:Nat->Nat->Bool)(rt r j:Nat)(hj:j<2)(h:g (rt-j) r=false):bc g rt r (j+1)=bc g rt r j++[(r,rt-j)]:=by
 unfold bc
 match j,hj with
 | 0,_=>simp at h;simp [h]
 | 1,_=>simp only [List.take_succ_cons,List.take_zero,List.filter_cons,List.filter_nil,h];cases g rt r<;>rfl
theorem rT (g:Nat->Nat->Bool)(rt r j:Nat)(hj:j<2)(h:g (rt-j) r=true):bc g rt r (j+1)=bc g rt r j:=by
 unfold bc
 match j,hj with
 | 0,_=>simp at h;simp [h]
 | 1,_=>simp only [List.take_succ_cons,List.take_zero,List.filter_cons,List.filter_nil,h];cases g rt r<;>rfl
set_option maxHeartbeats 4000000 in
set_option maxRecDepth 8000 in
theorem Jh (w:World)(v:Nat)(hv:1<=v/\v<=40) :
  Calls Tryz.prog 64 #[.int .i64 (v:Int)] w fun e w'=>∃ A m c,e=.returned (.slice A m c)/\m=(dW (17+4*v) (bM v (bA v))).length/\w'.ownsRow w.heap.size 118 2 (.slice A m c) m (dH (dW (17+4*v) (bM v (bA v))))/\Below w.heap.size w w':=by
 have kd:=Jg w v hv;obtain⟨kk,hkk⟩:=(C6 v hv).rounds;have KG:=Mw (fun W=>F.aY.calls kk v _ W hkk);obtain⟨n,hn⟩:∃ n,17+4*v=n:=⟨_,rfl⟩;rw [hn] at kd KG ⊢;have hn2:n<=177:=by omega
 have hn1:21<=n:=by omega
 obtain⟨gp,hgp⟩:∃ gp,bM v (bA v)=gp:=⟨_,rfl⟩;rw [hgp] at KG ⊢;clear hgp hkk hn hv
 go_enter Tryz.func64,Tryz.ntmps64
 go_wp2_with (first | (go_at_call 46;refine kd.mono ?_;rintro e0 w1 ⟨rfl,hb1⟩;have HB1:=Mw hb1;clear hb1) | (go_at_call 121;refine (KG.out _).mono ?_;rintro e0 w2 ⟨v0,rfl,hS,hb2⟩;obtain⟨gg,cg,q,cp,rfl,hcg,hbr⟩:=zU hS (by omega);have HBR:=Mw hbr;have HB2:=Mw (HB1.out.trans (hb2.mono HB1.out.size));clear hbr hb2 hS))
 clear kd;have HW2:=Mw HB2.out.size
 go_loopw [5,6,7] (fun vo vu vr wr=>∃ (k right m cm:Nat) (A:Option Addr) (up:Bool) (rI:Int) (xs:List (Nat×Nat)),vo=.slice A m cm/\vu=.bool up/\vr=.int .i64 rI/\(right=0\/rI=(right:Int))/\-1<=rI/\rI<=(right:Int)/\right<=k/\right<n/\m+400*right<=80000/\Aside0 (xs++eU n gp k right up=dW n gp)/\Aside0 (m=xs.length)/\Aside0 (wr.ownsRow w2.heap.size 118 2 (.slice A m cm) m (dH xs))/\Aside0 (Below w2.heap.size w2 wr)) (fun _ _ vr _=>(intOf vr+1).toNat)
 case atStart=>exact⟨n,n-1,0,0,none,true,(n:Int)-1,[],rfl,rfl,rfl,by omega,by omega,by omega,by omega,by omega,by omega,⟨rfl⟩,⟨rfl⟩,⟨⟨rfl,.inl ⟨rfl,rfl⟩⟩⟩,⟨Below.refl _ _⟩⟩
 case round=>
  obtain⟨k,right,m,cm,A,up,rI,xs,rfl,rfl,rfl,hor,hr1,hr2,hrk,hrn,hmr,HX,HM,HO,HB⟩:=hrel;by_cases hr0:right=0
  ·have hneg:¬ rI>0:=by omega
   have HE:=Mw (show xs=dW n gp by
    have h1:=HX.out;subst hr0;cases k with
    | zero=>rw [eU,Mz] at h1;exact h1
    | succ k=>rw [eU,if_pos rfl,Mz] at h1;exact h1)
   clear hor hr1 hr2 hrk hr0 hmr hrn
   go_wp2
   go_ret
   refine⟨A,m,cm,rfl,by rw [HM.out,HE.out],?_,HB2.out.trans (HB.out.mono HW2.out)⟩;rw [<- HE.out];exact uh HO.out HW2.out
  have hri:rI=(right:Int):=by omega
  subst hri;obtain⟨k,rfl⟩:∃ k',k=k'+1:=⟨k-1,by omega⟩;have hrp:(right:Int)>0:=by omega
  by_cases h6:right=6
  ·subst h6;have HFX:=Mw (show dA 6=5 by unfold dA;rfl)
   have HX2:=Mw (show xs++(bR n gp 5 up n++eU n gp k (5-2) (!up))=dW n gp by
    have h1:=HX.out;rw [eU,if_neg hr0,HFX.out] at h1;exact h1)
   have HRP:=Mw (show 1<=5 by omega);clear hor hr1 hr2 HX hr0
   go_wp2
   clear hrp
   go_loopw [5,8] (fun vo vi wr=>∃ (i m' cm:Nat) (A:Option Addr),vi=.int .i64 (i:Int)/\vo=.slice A m' cm/\i<=n/\m'<=m+2*i/\Aside0 (m'=(xs++bR n gp 5 up i).length)/\Aside0 (wr.ownsRow w2.heap.size 118 2 (.slice A m' cm) m' (dH (xs++bR n gp 5 up i)))/\Aside0 (Below w2.heap.size w2 wr)) (fun _ vi _=>(n-intOf vi).toNat)
   case atStart=>exact⟨0,m,cm,A,rfl,rfl,by omega,by omega,⟨by rw [bR,Mz];exact HM.out⟩,⟨by rw [bR,Mz];exact HO.out⟩,HB⟩
   case round=>
    clear HM HO HB;obtain⟨i,m1,cm,A,rfl,rfl,hi,hm1,HM,HO,HB⟩:=hrel;by_cases hin:i<n;rotate_left
    ·have:i=n:=by omega
     subst this
     go_wp2
     have:=HRP.out
     go_roundw
     case rel=>exact⟨k,3,m1,cm,A,!up,3,_,rfl,rfl,rfl,by omega,by omega,by omega,by omega,by omega,by omega,⟨by rw [Mx];exact HX2.out⟩,HM,HO,HB⟩
     case measure=>simp [intOf]<;>omega
    obtain⟨r,hr⟩:∃ r,fd n up i=r:=⟨_,rfl⟩;have hrn2:r<n:=by rw [<- hr];exact rD n up i hin
    have hri2:(n:Int)-1-(i:Int)=(r:Int)\/up=false:=by
     rw [<- hr];unfold fd;cases up with
     | false=>exact .inr rfl
     | true=>left;rw [if_pos rfl];omega
    have hri3:up=false->i=r:=fun h=>by rw [<- hr,h];rfl
    have HCN:=Mw (show xs++bR n gp 5 up (i+1)=xs++bR n gp 5 up i++bc gp 5 r 2 by rw [bR,hr,zW,Mx]);obtain⟨ys,hys⟩:∃ ys,xs++bR n gp 5 up i=ys:=⟨_,rfl⟩;rw [hys] at HM HO HCN;have HM0:=Mw (show m1=(ys++bc gp 5 r 0).length by unfold bc;simpa using HM.out)
    have HO0:=Mw (show wr.ownsRow w2.heap.size 118 2 (.slice A m1 cm) m1 (dH (ys++bc gp 5 r 0)) by
     have:ys++bc gp 5 r 0=ys:=by unfold bc;simp
     rw [this];exact HO.out)
    clear hr hys HM HO;cases up with
    | true=>
     have hri:=hri2.resolve_right (by decide);clear hri2 hri3
     go_wp2
     go_loopw [5,10] (fun vo vc wr=>∃ (j m' cm:Nat) (A:Option Addr),j<=2/\vc=.int .i64 ((5:Int)-(j:Int))/\vo=.slice A m' cm/\m'<=m1+j/\Aside0 (m'=(ys++bc gp 5 r j).length)/\Aside0 (wr.ownsRow w2.heap.size 118 2 (.slice A m' cm) m' (dH (ys++bc gp 5 r j)))/\Aside0 (Below w2.heap.size w2 wr)) (fun _ vc _=>(intOf vc+2).toNat)
     case atStart=>exact⟨0,m1,cm,A,by omega,by go_num,rfl,by omega,HM0,HO0,HB⟩
     case round=>
      clear HM0 HO0 HB;obtain⟨j,m2,cm,A,hj,rfl,rfl,hm2,HM,HO,HB⟩:=hrel;by_cases hj2:j<2;rotate_left
      ·have:j=2:=by omega
       subst this
       go_wp2
       go_roundw
       case rel=>exact⟨i+1,m2,cm,A,by go_num,rfl,by omega,by omega,⟨by rw [HCN.out];exact HM.out⟩,⟨by rw [HCN.out];exact HO.out⟩,HB⟩
       case measure=>simp [intOf]<;>omega
      obtain⟨x,hx⟩:∃ x:Nat,5-j=x:=⟨_,rfl⟩;have hxi:(5:Int)-(j:Int)=(x:Int):=by have:=HRP.out;omega
      have hxn:x<n:=by omega
      have hge:(5:Int)-(1:Int)<=(x:Int):=by omega
      obtain⟨R1,_,hcq,_,R2⟩:=(HBR.out.below HB.out (My _)).row r hrn2;have r2:=R2 x hxn;obtain⟨qr,hqr⟩:∃ qr,q r=qr:=⟨_,rfl⟩;rw [hqr] at R1 r2;obtain⟨cr,hcr⟩:∃ cr,cp r=cr:=⟨_,rfl⟩;rw [hcr] at R1;have hpy:=rS gp 5 r j hj2;have hpn:=rT gp 5 r j hj2;rw [hx] at hpy hpn;obtain⟨b,hb⟩:∃ b,gp x r=b:=⟨_,rfl⟩;rw [hb] at r2 hpy hpn;rw [hxi];have HXI:=Mw hxi;have hj3:(j:Int)<2:=by omega
      clear R2 hqr hcr hb hx hxi hcq;cases b with
      | true=>
       have hpn2:=hpn rfl;have HM2:=Mw (show m2=(ys++bc gp 5 r (j+1)).length by rw [hpn2];exact HM.out)
       have HO2:=Mw (show wr.ownsRow w2.heap.size 118 2 (.slice A m2 cm) m2 (dH (ys++bc gp 5 r (j+1))) by rw [hpn2];exact HO.out)
       clear hpy hpn hpn2
       go_wp2
       go_roundw
       case rel=>exact⟨j+1,m2,cm,A,by omega,by have:=HXI.out;go_num,rfl,by omega,HM2,HO2,HB⟩
       case measure=>simp [intOf]<;>omega
      | false=>
       have hpy2:=hpy rfl;have HNX:=Mw (show ys++bc gp 5 r (j+1)=(ys++bc gp 5 r j)++[(r,x)] by rw [hpy2,Mx]);have HML:=Mw (show m2+1=(ys++bc gp 5 r (j+1)).length by rw [HNX.out,MA,<- HM.out];rfl)
       clear hpy hpn hpy2
       go_wp2_with (first | ((with_reducible refine bD (b:=.append) (xs:=#[.tmp 49,.tmp 53]) rfl ?_);at_builtin;go_loud (refine mV (w0:=w2) w2.heap.size rfl (.tmp 49) (.tmp 53) 116 118 (.agg #[.int .i64 0,.int .i64 0]) 2 16 rfl Tryz.underlying116 rQ rfl (by decide) (by decide) (.slice A m2 cm) m2 (dH (ys++bc gp 5 r j)) [.int .i64 (r:Int),.int .i64 (x:Int)] rfl rfl rfl (by simp [Value.oneCell']) HO.out HB.out HB.out.size ?aL ?_;(case aL=>omega);intro v6 w6 ho6 hb6 hg6 hat6;rw [<- rR _ (r,x),<- HNX.out] at ho6;obtain⟨A6,c6,hv6⟩:=eh ho6;subst hv6;have HO6:=Mw ho6;have HB6:=Mw hb6;clear ho6 hb6 hg6 hat6)))
       go_roundw
       case rel=>first | exact⟨j+1,m2+1,c6,A6,by omega,by have:=HXI.out;go_num,rfl,by omega,HML,HO6,HB6⟩ | ((repeat apply Exists.intro);exact⟨⟨j+1,m2+1,c6,A6,by omega,by have:=HXI.out;go_num,rfl,by omega,HML,HO6,HB6⟩,rfl⟩)
       case measure=>show ((x:Int)-1+2).toNat<((x:Int)+2).toNat;omega
    | false=>
     have hri:=hri3 rfl;subst hri;clear hri2 hri3
     go_wp2
     go_loopw [5,10] (fun vo vc wr=>∃ (j m' cm:Nat) (A:Option Addr),j<=2/\vc=.int .i64 ((5:Int)-(j:Int))/\vo=.slice A m' cm/\m'<=m1+j/\Aside0 (m'=(ys++bc gp 5 i j).length)/\Aside0 (wr.ownsRow w2.heap.size 118 2 (.slice A m' cm) m' (dH (ys++bc gp 5 i j)))/\Aside0 (Below w2.heap.size w2 wr)) (fun _ vc _=>(intOf vc+2).toNat)
     case atStart=>exact⟨0,m1,cm,A,by omega,by go_num,rfl,by omega,HM0,HO0,HB⟩
     case round=>
      clear HM0 HO0 HB;obtain⟨j,m2,cm,A,hj,rfl,rfl,hm2,HM,HO,HB⟩:=hrel;by_cases hj2:j<2;rotate_left
      ·have:j=2:=by omega
       subst this
       go_wp2
       go_roundw
       case rel=>exact⟨i+1,m2,cm,A,by go_num,rfl,by omega,by omega,⟨by rw [HCN.out];exact HM.out⟩,⟨by rw [HCN.out];exact HO.out⟩,HB⟩
       case measure=>simp [intOf]<;>omega
      obtain⟨x,hx⟩:∃ x:Nat,5-j=x:=⟨_,rfl⟩;have hxi:(5:Int)-(j:Int)=(x:Int):=by have:=HRP.out;omega
      have hxn:x<n:=by omega
      have hge:(5:Int)-(1:Int)<=(x:Int):=by omega
      obtain⟨R1,_,hcq,_,R2⟩:=(HBR.out.below HB.out (My _)).row i hin;have r2:=R2 x hxn;obtain⟨qr,hqr⟩:∃ qr,q i=qr:=⟨_,rfl⟩;rw [hqr] at R1 r2;obtain⟨cr,hcr⟩:∃ cr,cp i=cr:=⟨_,rfl⟩;rw [hcr] at R1;have hpy:=rS gp 5 i j hj2;have hpn:=rT gp 5 i j hj2;rw [hx] at hpy hpn;obtain⟨b,hb⟩:∃ b,gp x i=b:=⟨_,rfl⟩;rw [hb] at r2 hpy hpn;rw [hxi];have HXI:=Mw hxi;have hj3:(j:Int)<2:=by omega
      clear R2 hqr hcr hb hx hxi hcq;cases b with
      | true=>
       have hpn2:=hpn rfl;have HM2:=Mw (show m2=(ys++bc gp 5 i (j+1)).length by rw [hpn2];exact HM.out)
       have HO2:=Mw (show wr.ownsRow w2.heap.size 118 2 (.slice A m2 cm) m2 (dH (ys++bc gp 5 i (j+1))) by rw [hpn2];exact HO.out)
       clear hpy hpn hpn2
       go_wp2
       go_roundw
       case rel=>exact⟨j+1,m2,cm,A,by omega,by have:=HXI.out;go_num,rfl,by omega,HM2,HO2,HB⟩
       case measure=>simp [intOf]<;>omega
      | false=>
       have hpy2:=hpy rfl;have HNX:=Mw (show ys++bc gp 5 i (j+1)=(ys++bc gp 5 i j)++[(i,x)] by rw [hpy2,Mx]);have HML:=Mw (show m2+1=(ys++bc gp 5 i (j+1)).length by rw [HNX.out,MA,<- HM.out];rfl)
       clear hpy hpn hpy2
       go_wp2_with (first | ((with_reducible refine bD (b:=.append) (xs:=#[.tmp 49,.tmp 53]) rfl ?_);at_builtin;go_loud (refine mV (w0:=w2) w2.heap.size rfl (.tmp 49) (.tmp 53) 116 118 (.agg #[.int .i64 0,.int .i64 0]) 2 16 rfl Tryz.underlying116 rQ rfl (by decide) (by decide) (.slice A m2 cm) m2 (dH (ys++bc gp 5 i j)) [.int .i64 (i:Int),.int .i64 (x:Int)] rfl rfl rfl (by simp [Value.oneCell']) HO.out HB.out HB.out.size ?aL ?_;(case aL=>omega);intro v6 w6 ho6 hb6 hg6 hat6;rw [<- rR _ (i,x),<- HNX.out] at ho6;obtain⟨A6,c6,hv6⟩:=eh ho6;subst hv6;have HO6:=Mw ho6;have HB6:=Mw hb6;clear ho6 hb6 hg6 hat6)))
       go_roundw
       case rel=>first | exact⟨j+1,m2+1,c6,A6,by omega,by have:=HXI.out;go_num,rfl,by omega,HML,HO6,HB6⟩ | ((repeat apply Exists.intro);exact⟨⟨j+1,m2+1,c6,A6,by omega,by have:=HXI.out;go_num,rfl,by omega,HML,HO6,HB6⟩,rfl⟩)
       case measure=>show ((x:Int)-1+2).toNat<((x:Int)+2).toNat;omega
  have HFX:=Mw (show dA right=right by unfold dA;rw [if_neg h6])
  have HX2:=Mw (show xs++(bR n gp right up n++eU n gp k (right-2) (!up))=dW n gp by
   have h1:=HX.out;rw [eU,if_neg hr0,HFX.out] at h1;exact h1)
  have hd0:decide (0<right)=true:=decide_eq_true (by omega);have hd6:((right:Int)==6)=false:=by rw [beq_eq_false_iff_ne];omega
  clear h6 hrp;have HRP:=Mw (show 1<=right by omega);clear hor hr1 hr2 HX hr0
  go_wp2
  clear hd0 hd6
  go_loopw [5,8] (fun vo vi wr=>∃ (i m' cm:Nat) (A:Option Addr),vi=.int .i64 (i:Int)/\vo=.slice A m' cm/\i<=n/\m'<=m+2*i/\Aside0 (m'=(xs++bR n gp right up i).length)/\Aside0 (wr.ownsRow w2.heap.size 118 2 (.slice A m' cm) m' (dH (xs++bR n gp right up i)))/\Aside0 (Below w2.heap.size w2 wr)) (fun _ vi _=>(n-intOf vi).toNat)
  case atStart=>exact⟨0,m,cm,A,rfl,rfl,by omega,by omega,⟨by rw [bR,Mz];exact HM.out⟩,⟨by rw [bR,Mz];exact HO.out⟩,HB⟩
  case round=>
   clear HM HO HB;obtain⟨i,m1,cm,A,rfl,rfl,hi,hm1,HM,HO,HB⟩:=hrel;by_cases hin:i<n;rotate_left
   ·have:i=n:=by omega
    subst this
    go_wp2
    have:=HRP.out
    go_roundw
    case rel=>exact⟨k,right-2,m1,cm,A,!up,(right:Int)-2,_,rfl,rfl,rfl,by omega,by omega,by omega,by omega,by omega,by omega,⟨by rw [Mx];exact HX2.out⟩,HM,HO,HB⟩
    case measure=>simp [intOf]<;>omega
   obtain⟨r,hr⟩:∃ r,fd n up i=r:=⟨_,rfl⟩;have hrn2:r<n:=by rw [<- hr];exact rD n up i hin
   have hri2:(n:Int)-1-(i:Int)=(r:Int)\/up=false:=by
    rw [<- hr];unfold fd;cases up with
    | false=>exact .inr rfl
    | true=>left;rw [if_pos rfl];omega
   have hri3:up=false->i=r:=fun h=>by rw [<- hr,h];rfl
   have HCN:=Mw (show xs++bR n gp right up (i+1)=xs++bR n gp right up i++bc gp right r 2 by rw [bR,hr,zW,Mx]);obtain⟨ys,hys⟩:∃ ys,xs++bR n gp right up i=ys:=⟨_,rfl⟩;rw [hys] at HM HO HCN;have HM0:=Mw (show m1=(ys++bc gp right r 0).length by unfold bc;simpa using HM.out)
   have HO0:=Mw (show wr.ownsRow w2.heap.size 118 2 (.slice A m1 cm) m1 (dH (ys++bc gp right r 0)) by
    have:ys++bc gp right r 0=ys:=by unfold bc;simp
    rw [this];exact HO.out)
   clear hr hys HM HO;cases up with
   | true=>
    have hri:=hri2.resolve_right (by decide);clear hri2 hri3
    go_wp2
    go_loopw [5,10] (fun vo vc wr=>∃ (j m' cm:Nat) (A:Option Addr),j<=2/\vc=.int .i64 ((right:Int)-(j:Int))/\vo=.slice A m' cm/\m'<=m1+j/\Aside0 (m'=(ys++bc gp right r j).length)/\Aside0 (wr.ownsRow w2.heap.size 118 2 (.slice A m' cm) m' (dH (ys++bc gp right r j)))/\Aside0 (Below w2.heap.size w2 wr)) (fun _ vc _=>(intOf vc+2).toNat)
    case atStart=>exact⟨0,m1,cm,A,by omega,by go_num,rfl,by omega,HM0,HO0,HB⟩
    case round=>
     clear HM0 HO0 HB;obtain⟨j,m2,cm,A,hj,rfl,rfl,hm2,HM,HO,HB⟩:=hrel;by_cases hj2:j<2;rotate_left
     ·have:j=2:=by omega
      subst this
      go_wp2
      go_roundw
      case rel=>exact⟨i+1,m2,cm,A,by go_num,rfl,by omega,by omega,⟨by rw [HCN.out];exact HM.out⟩,⟨by rw [HCN.out];exact HO.out⟩,HB⟩
      case measure=>simp [intOf]<;>omega
     obtain⟨x,hx⟩:∃ x:Nat,right-j=x:=⟨_,rfl⟩;have hxi:(right:Int)-(j:Int)=(x:Int):=by have:=HRP.out;omega
     have hxn:x<n:=by omega
     have hge:(right:Int)-(1:Int)<=(x:Int):=by omega
     obtain⟨R1,_,hcq,_,R2⟩:=(HBR.out.below HB.out (My _)).row r hrn2;have r2:=R2 x hxn;obtain⟨qr,hqr⟩:∃ qr,q r=qr:=⟨_,rfl⟩;rw [hqr] at R1 r2;obtain⟨cr,hcr⟩:∃ cr,cp r=cr:=⟨_,rfl⟩;rw [hcr] at R1;have hpy:=rS gp right r j hj2;have hpn:=rT gp right r j hj2;rw [hx] at hpy hpn;obtain⟨b,hb⟩:∃ b,gp x r=b:=⟨_,rfl⟩;rw [hb] at r2 hpy hpn;rw [hxi];have HXI:=Mw hxi;have hj3:(j:Int)<2:=by omega
     clear R2 hqr hcr hb hx hxi hcq;cases b with
     | true=>
      have hpn2:=hpn rfl;have HM2:=Mw (show m2=(ys++bc gp right r (j+1)).length by rw [hpn2];exact HM.out)
      have HO2:=Mw (show wr.ownsRow w2.heap.size 118 2 (.slice A m2 cm) m2 (dH (ys++bc gp right r (j+1))) by rw [hpn2];exact HO.out)
      clear hpy hpn hpn2
      go_wp2
      go_roundw
      case rel=>exact⟨j+1,m2,cm,A,by omega,by have:=HXI.out;go_num,rfl,by omega,HM2,HO2,HB⟩
      case measure=>simp [intOf]<;>omega
     | false=>
      have hpy2:=hpy rfl;have HNX:=Mw (show ys++bc gp right r (j+1)=(ys++bc gp right r j)++[(r,x)] by rw [hpy2,Mx]);have HML:=Mw (show m2+1=(ys++bc gp right r (j+1)).length by rw [HNX.out,MA,<- HM.out];rfl)
      clear hpy hpn hpy2
      go_wp2_with (first | ((with_reducible refine bD (b:=.append) (xs:=#[.tmp 49,.tmp 53]) rfl ?_);at_builtin;go_loud (refine mV (w0:=w2) w2.heap.size rfl (.tmp 49) (.tmp 53) 116 118 (.agg #[.int .i64 0,.int .i64 0]) 2 16 rfl Tryz.underlying116 rQ rfl (by decide) (by decide) (.slice A m2 cm) m2 (dH (ys++bc gp right r j)) [.int .i64 (r:Int),.int .i64 (x:Int)] rfl rfl rfl (by simp [Value.oneCell']) HO.out HB.out HB.out.size ?aL ?_;(case aL=>omega);intro v6 w6 ho6 hb6 hg6 hat6;rw [<- rR _ (r,x),<- HNX.out] at ho6;obtain⟨A6,c6,hv6⟩:=eh ho6;subst hv6;have HO6:=Mw ho6;have HB6:=Mw hb6;clear ho6 hb6 hg6 hat6)))
      go_roundw
      case rel=>first | exact⟨j+1,m2+1,c6,A6,by omega,by have:=HXI.out;go_num,rfl,by omega,HML,HO6,HB6⟩ | ((repeat apply Exists.intro);exact⟨⟨j+1,m2+1,c6,A6,by omega,by have:=HXI.out;go_num,rfl,by omega,HML,HO6,HB6⟩,rfl⟩)
      case measure=>show ((x:Int)-1+2).toNat<((x:Int)+2).toNat;omega
   | false=>
    have hri:=hri3 rfl;subst hri;clear hri2 hri3
    go_wp2
    go_loopw [5,10] (fun vo vc wr=>∃ (j m' cm:Nat) (A:Option Addr),j<=2/\vc=.int .i64 ((right:Int)-(j:Int))/\vo=.slice A m' cm/\m'<=m1+j/\Aside0 (m'=(ys++bc gp right i j).length)/\Aside0 (wr.ownsRow w2.heap.size 118 2 (.slice A m' cm) m' (dH (ys++bc gp right i j)))/\Aside0 (Below w2.heap.size w2 wr)) (fun _ vc _=>(intOf vc+2).toNat)
    case atStart=>exact⟨0,m1,cm,A,by omega,by go_num,rfl,by omega,HM0,HO0,HB⟩
    case round=>
     clear HM0 HO0 HB;obtain⟨j,m2,cm,A,hj,rfl,rfl,hm2,HM,HO,HB⟩:=hrel;by_cases hj2:j<2;rotate_left
     ·have:j=2:=by omega
      subst this
      go_wp2
      go_roundw
      case rel=>exact⟨i+1,m2,cm,A,by go_num,rfl,by omega,by omega,⟨by rw [HCN.out];exact HM.out⟩,⟨by rw [HCN.out];exact HO.out⟩,HB⟩
      case measure=>simp [intOf]<;>omega
     obtain⟨x,hx⟩:∃ x:Nat,right-j=x:=⟨_,rfl⟩;have hxi:(right:Int)-(j:Int)=(x:Int):=by have:=HRP.out;omega
     have hxn:x<n:=by omega
     have hge:(right:Int)-(1:Int)<=(x:Int):=by omega
     obtain⟨R1,_,hcq,_,R2⟩:=(HBR.out.below HB.out (My _)).row i hin;have r2:=R2 x hxn;obtain⟨qr,hqr⟩:∃ qr,q i=qr:=⟨_,rfl⟩;rw [hqr] at R1 r2;obtain⟨cr,hcr⟩:∃ cr,cp i=cr:=⟨_,rfl⟩;rw [hcr] at R1;have hpy:=rS gp right i j hj2;have hpn:=rT gp right i j hj2;rw [hx] at hpy hpn;obtain⟨b,hb⟩:∃ b,gp x i=b:=⟨_,rfl⟩;rw [hb] at r2 hpy hpn;rw [hxi];have HXI:=Mw hxi;have hj3:(j:Int)<2:=by omega
     clear R2 hqr hcr hb hx hxi hcq;cases b with
     | true=>
      have hpn2:=hpn rfl;have HM2:=Mw (show m2=(ys++bc gp right i (j+1)).length by rw [hpn2];exact HM.out)
      have HO2:=Mw (show wr.ownsRow w2.heap.size 118 2 (.slice A m2 cm) m2 (dH (ys++bc gp right i (j+1))) by rw [hpn2];exact HO.out)
      clear hpy hpn hpn2
      go_wp2
      go_roundw
      case rel=>exact⟨j+1,m2,cm,A,by omega,by have:=HXI.out;go_num,rfl,by omega,HM2,HO2,HB⟩
      case measure=>simp [intOf]<;>omega
     | false=>
      have hpy2:=hpy rfl;have HNX:=Mw (show ys++bc gp right i (j+1)=(ys++bc gp right i j)++[(i,x)] by rw [hpy2,Mx]);have HML:=Mw (show m2+1=(ys++bc gp right i (j+1)).length by rw [HNX.out,MA,<- HM.out];rfl)
      clear hpy hpn hpy2
      go_wp2_with (first | ((with_reducible refine bD (b:=.append) (xs:=#[.tmp 49,.tmp 53]) rfl ?_);at_builtin;go_loud (refine mV (w0:=w2) w2.heap.size rfl (.tmp 49) (.tmp 53) 116 118 (.agg #[.int .i64 0,.int .i64 0]) 2 16 rfl Tryz.underlying116 rQ rfl (by decide) (by decide) (.slice A m2 cm) m2 (dH (ys++bc gp right i j)) [.int .i64 (i:Int),.int .i64 (x:Int)] rfl rfl rfl (by simp [Value.oneCell']) HO.out HB.out HB.out.size ?aL ?_;(case aL=>omega);intro v6 w6 ho6 hb6 hg6 hat6;rw [<- rR _ (i,x),<- HNX.out] at ho6;obtain⟨A6,c6,hv6⟩:=eh ho6;subst hv6;have HO6:=Mw ho6;have HB6:=Mw hb6;clear ho6 hb6 hg6 hat6)))
      go_roundw
      case rel=>first | exact⟨j+1,m2+1,c6,A6,by omega,by have:=HXI.out;go_num,rfl,by omega,HML,HO6,HB6⟩ | ((repeat apply Exists.intro);exact⟨⟨j+1,m2+1,c6,A6,by omega,by have:=HXI.out;go_num,rfl,by omega,HML,HO6,HB6⟩,rfl⟩)
      case measure=>show ((x:Int)-1+2).toNat<((x:Int)+2).toNat;omega
def T6:Bool×List (List Nat×List Nat):=(true,[([],[]),([],[]),([1],[1]),([0,2],[0,2]),([3],[3]),([],[]),([5],[5]),([],[]),([],[]),([],[]),([9],[9]),([],[]),([11],[11]),([8,10,12],[8,10,12]),([7,13],[7,13]),([4,6,0,1,2,3,4,5,6,7,8,9,10,11,12,13,14],[4,6]),([15,14,13,0,1,2,3,4,5,6,7,8,9,10,11,12,13,14],[14,15])])
def B6:List Nat:=[0,0,2,7,15,0,32,0,0,0,512,0,2048,7936,16256,32767,65535]
theorem zX:cH .any (lC Tryz.f28 6)=T6:=by kernel_rfl
theorem zY:iw T6.2 B6=true:=by kernel_rfl
end Go.Proofs.YtgccjgpdjkhpdaaGreat.B
namespace Go.Proofs.YtgccjgpdjkhpdaaGreat.B
open Go.Proofs.YtgccjgpdjkhpdaaGreat.F (pu_ ta_ no_ hv_ hvS_)
open Go.RowKit Go.Proofs.YtgccjgpdjkhpdaaGreatW.PrintWords Go.Proofs.YtgccjgpdjkhpdaaGreatW.PrintLast Go.Proofs.YtgccjgpdjkhpdaaGreatW.PrintMore
set_option linter.unusedVariables false
set_option linter.unusedSimpArgs false
theorem Ji (m x y:Nat)(hm:m<8)(hx:x<200)(hy:y<200):F.o8.f m x y=some (eB m x y):=by
 have hxy:x*y<=40000:=Nat.le_trans (Nat.mul_le_mul (show x<=200 by omega) (show y<=200 by omega)) (by decide);have tm:∀ a k:Nat,Int.tmod (a:Int) (k:Int)=((a%k:Nat):Int):=fun a k=>rfl
 have td:∀ a k:Nat,Int.tdiv (a:Int) (k:Int)=((a/k:Nat):Int):=fun a k=>rfl
 have hs:wrap64 ((x:Int)+(y:Int))=((x+y:Nat):Int):=by rw [bi _ (by omega) (by omega)];omega
 have hp:wrap64 ((x:Int)*(y:Int))=((x*y:Nat):Int):=by
  have e:(x:Int)*(y:Int)=((x*y:Nat):Int):=by rw [Int.natCast_mul]
  rw [e,bi _ (by omega) (by omega)]
 obtain⟨p,hpp⟩:∃ p,x*y=p:=⟨_,rfl⟩;rw [hpp] at hp hxy;have two:(2:Int)=((2:Nat):Int):=rfl;have three:(3:Int)=((3:Nat):Int):=rfl;have bq:∀ (a:Nat),((a:Int)==0)=decide (a=0):=fun a=>by
  by_cases h:a=0
  ·subst h;rfl
  rw [decide_eq_false h,beq_eq_false_iff_ne];omega
 unfold F.o8.f;rw [hs,hp,two,three]
 match m,hm with
 | 0,_=>rw [if_pos (by decide),tm,bq];rfl
 | 1,_=>rw [if_neg (by decide),if_pos (by decide),tm,bq];rfl
 | 2,_=>rw [if_neg (by decide),if_neg (by decide),if_pos (by decide),tm,bq];rfl
 | 3,_=>rw [if_neg (by decide),if_neg (by decide),if_neg (by decide),if_pos (by decide),tm,bq];rfl
 | 4,_=>
  rw [if_neg (by decide),if_neg (by decide),if_neg (by decide),if_neg (by decide),if_pos (by decide),td,td,bi ((y/2:Nat):Int) (by omega) (by omega),bi ((x/3:Nat):Int) (by omega) (by omega),bi _ (by omega) (by omega),<- MB,tm,bq];rfl
 | 5,_=>
  rw [if_neg (by decide),if_neg (by decide),if_neg (by decide),if_neg (by decide),if_neg (by decide),if_pos (by decide),tm,tm,bi _ (by omega) (by omega),<- MB,bq,<- hpp];rfl
 | 6,_=>
  rw [if_neg (by decide),if_neg (by decide),if_neg (by decide),if_neg (by decide),if_neg (by decide),if_neg (by decide),if_pos (by decide),tm,tm,bi _ (by omega) (by omega),<- MB,tm,bq,<- hpp];rfl
 | 7,_=>
  rw [if_neg (by decide),if_neg (by decide),if_neg (by decide),if_neg (by decide),if_neg (by decide),if_neg (by decide),if_neg (by decide),tm,tm,bi _ (by omega) (by omega),<- MB,tm,bq,<- hpp];rfl
theorem Jj (w:World)(m x y:Nat)(hm:m<8)(hx:x<200)(hy:y<200):Calls Tryz.prog 65 #[.int .i64 (m:Int),.int .i64 (x:Int),.int .i64 (y:Int)] w fun e w'=>e=.returned (.bool (eB m x y))/\aj w w' :=
 F.o8.calls m x y _ w (Ji m x y hm hx hy)
theorem zZ (n:Nat)(g:Nat->Nat->Bool)(p:Nat×Nat)(h:p∈dW n g)(hn:1<=n)(ho:n%2=1):p.1<n/\p.2<n:=by
 obtain⟨h1,h2,h3,_⟩:=rE n g p _ _ _ h;refine⟨h3,?_⟩;have:dA (n-1)<=n-1:=by unfold dA;split<;>omega
 omega
theorem Jk (bit:Nat->Nat×Nat->Bool):∀ (l:List (Nat×Nat)) (p:Nat×Nat) (i:Nat) (f:Nat->Nat->Bool),dC bit (l++[p]) i f=fun r c=>if r=p.1/\c=p.2 then bit (i+l.length) p else dC bit l i f r c:=by
 intro l
 induction l with
 | nil=>intro p i f;rfl
 | cons q l ih=>
  intro p i f;rw [List.cons_append,dC,ih,dC,show i+1+l.length=i+(q :: l).length by simp;omega]
def gD (bits:List Bool)(m:Nat)(i:Nat)(p:Nat×Nat):Bool:=bits.getD i false != eB m p.2 p.1
theorem Jl {w:World}{base m c:Nat}{A:Option Addr}{xs:List (Nat×Nat)}(h:w.ownsRow base 118 2 (.slice A m c) m (dH xs))(hm:m=xs.length)(h0:0<m) :
  ∃ q CS,A=some ⟨q,0,none⟩/\Blk w q 118 CS/\m<=c/\∀ i,i<m->CS[i*2]? = some (.int .i64 ((xs.getD i (0,0)).1:Int))/\CS[i*2+1]? = some (.int .i64 ((xs.getD i (0,0)).2:Int)):=by
 obtain⟨hlen,h2⟩:=h;rcases h2 with⟨_,h3⟩ | ⟨q,c',cs,hv,hb,hh,hc,hmx,hs,ht⟩
 ·omega
 injection hv with hA _ hcc;subst hcc;refine⟨q,cs,hA,hh,hc,fun i hi=>?_⟩;have hget:∀ (ys:List (Nat×Nat)) (i:Nat),i<ys.length->(dH ys)[i*2]? = some (.int .i64 ((ys.getD i (0,0)).1:Int))/\(dH ys)[i*2+1]? = some (.int .i64 ((ys.getD i (0,0)).2:Int)):=by
  intro ys
  induction ys with
  | nil=>intro i hi;simp at hi
  | cons y ys ih=>
   intro i hi;cases i with
   | zero=>exact⟨rfl,rfl⟩
   | succ i=>
    have:=ih i (by simpa using hi);rw [show (i+1)*2=i*2+1+1 by omega];unfold dH;rw [List.flatMap_cons];simpa [dH] using this
 obtain⟨g1,g2⟩:=hget xs i (by omega);rw [<- ht] at g1 g2;rw [List.getElem?_take_of_lt (by omega)] at g1 g2;rw [<- MD,<- MD];exact⟨g1,g2⟩
theorem Jm (w:World)(v l m n:Nat)(cf:Nat->Nat->Bool)(hn:17+4*v=n)(hn1:1<=n)(hp:Ev (fun k=>F.aI.f k v l m) (aK n cf n)) :
  Calls Tryz.prog 15 #[.int .i64 (v:Int),.int .i64 (l:Int),.int .i64 (m:Int)] w fun e w'=>∃ g cap q cp,e=.returned (.slice (some ⟨g,0,none⟩) n cap)/\(n<=cap/\cp n=cap)/\cP w' w.heap.size g n q cp cf/\Below w.heap.size w w':=by
 obtain⟨kk,hkk⟩:=hp.rounds;refine (F.aI.calls kk v l m _ w hkk).mono ?_;rintro e w' ⟨v0,rfl,hS,hb⟩;obtain⟨g,cap,q,cp,rfl,hc,hbr⟩:=zU hS hn1;exact⟨g,cap,q,cp,rfl,hc,hbr,hb⟩
set_option maxHeartbeats 4000000 in
set_option maxRecDepth 8000 in
theorem Jn (w:World)(v l m qb nb cb:Nat)(bits:List Bool)(cf:Nat->Nat->Bool)(hv:1<=v/\v<=40)(hm:m<8)(hbn:bits.length=nb)(hq:qb<w.heap.size)(hb:∀ i,i<nb->w.cell? ⟨qb,i,none⟩=some (.bool (bits.getD i false)))
  (hp:Ev (fun k=>F.aI.f k v l m) (aK (17+4*v) cf (17+4*v))) :
  Calls Tryz.prog 28 #[.slice (some ⟨qb,0,none⟩) nb cb,.int .i64 (v:Int),.int .i64 (l:Int),.int .i64 (m:Int)] w fun e w'=>∃ g cap q cp,e=.returned (.slice (some ⟨g,0,none⟩) (17+4*v) cap)/\(17+4*v<=cap/\cp (17+4*v)=cap)/\
   cP w' w.heap.size g (17+4*v) q cp (dC (gD bits m) (dW (17+4*v) (bM v (bA v))) 0 cf)/\Below w.heap.size w w':=by
 have KW:=Mw (fun W=>Jh W v hv);obtain⟨n,hn⟩:∃ n,17+4*v=n:=⟨_,rfl⟩;have hn1:1<=n:=by omega
 have hodd:n%2=1:=by omega
 have hn2:n<200:=by omega
 rw [hn] at hp;have kp:=Jm w v l m n cf hn hn1 hp;have hwl:=tT v hv;have hrm:=(jp v hv).2;have hr0:0<bW v:=by
  have L:=eD v 0 hv (by decide);have h1:=L.tot;have h2:0<aN v 0*(av v 0+aE v 0):=Nat.mul_pos L.d1 (by have:=L.c1;omega)
  omega
 rw [hn] at KW hwl ⊢;obtain⟨xs,hxs⟩:∃ xs,dW n (bM v (bA v))=xs:=⟨_,rfl⟩;have hin:∀ p,p∈xs->p.1<n/\p.2<n:=fun p hp=>by rw [<- hxs] at hp;exact zZ n _ p hp hn1 hodd
 rw [hxs] at KW hwl ⊢;clear hxs hp hn;have HB_:=Mw hb;have HQ:=Mw hq;have HIN:=Mw hin;have HBN:=Mw hbn;have HM8:=Mw hm;clear hb hq hin hbn hm
 go_enter Tryz.func28,Tryz.ntmps28
 go_wp2_with (first | (go_at_call 15;refine kp.mono ?_;rintro e0 w1 ⟨gg,cg,q,cp,rfl,hcg,hbr,hb1⟩;have HBR:=Mw hbr;have HB1:=Mw hb1;clear hbr hb1) | (go_at_call 64;refine (KW.out _).mono ?_;rintro e0 w2 ⟨A,M,cM,rfl,hM,ho,hb2⟩;obtain⟨qw,CS,hA,hblk,hMc,hcs⟩:=Jl ho hM (by omega);subst hA;have HCS:=Mw hcs;have HBLK:=Mw hblk;have HM:=Mw hM;have HB2:=Mw (HB1.out.trans (hb2.mono HB1.out.size));have HBR2:=Mw (HBR.out.below hb2 (My _));clear ho hb2 hcs hblk hM))
 clear kp HBR;have hM5:M<=40000:=by rw [HM.out,hwl];exact hrm
 clear hwl hrm hr0
 go_loopw [20] (fun vi wr=>∃ i:Nat,vi=.int .i64 (i:Int)/\i<=M/\Aside0 (cP wr w.heap.size gg n q cp (dC (gD bits m) (xs.take i) 0 cf))/\Aside0 (Blk wr qw 118 CS)/\Aside0 (Below w.heap.size w wr)) (fun vi _=>(M-intOf vi).toNat)
 case atStart=>exact⟨0,rfl,Nat.zero_le _,HBR2,HBLK,HB2⟩
 case round=>
  clear HBR2 HBLK HB2;obtain⟨i,rfl,hi,HBR,HBLK,HB⟩:=hrel;by_cases hiM:i<M;rotate_left
  ·have:i=M:=by omega
   subst this
   go_wp2
   go_ret
   exact⟨gg,cg,q,cp,rfl,hcg,by have:=HBR.out;rwa [List.take_of_length_le (by rw [HM.out];exact My _)] at this,HB.out⟩
  obtain⟨p,hp⟩:∃ p,xs.getD i (0,0)=p:=⟨_,rfl⟩;obtain⟨r,c⟩:=p;obtain⟨c1,c2⟩:=HCS.out i hiM;rw [hp] at c1 c2;have hmem:(r,c)∈xs:=by
   rw [<- hp,MC,ME (by rw [<- HM.out];exact hiM)]
   exact List.getElem_mem _
  obtain⟨hrn,hcn⟩:=HIN.out _ hmem;have r0:wr.cell? ⟨qw,i*2,none⟩=some (.int .i64 (r:Int)):=(Blk.cell HBLK.out (i*2)).trans c1;have r1:wr.cell? ⟨qw,i*2+1,none⟩=some (.int .i64 (c:Int)):=(Blk.cell HBLK.out (i*2+1)).trans c2;have htk:xs.take (i+1)=xs.take i++[(r,c)]:=by
   rw [List.take_succ_eq_append_getElem (by rw [<- HM.out];exact hiM)]
   congr 2;rw [MC,ME (by rw [<- HM.out];exact hiM)] at hp
   exact hp
  have HNX:=Mw (show dC (gD bits m) (xs.take (i+1)) 0 cf=fun r' c'=>if r'=r/\c'=c then gD bits m i (r,c) else dC (gD bits m) (xs.take i) 0 cf r' c' by
   rw [htk,Jk,Nat.zero_add,List.length_take,Nat.min_eq_left (by rw [<- HM.out];exact hi)])
  have hbit:i<nb->wr.cell? ⟨qb,i,none⟩=some (.bool (bits.getD i false)):=fun h=>(HB.out.cell (p:=⟨qb,i,none⟩) HQ.out).trans (HB_.out i h)
  have hbit2:¬ i<nb->bits.getD i false=false:=fun h=>by rw [MC,List.getElem?_eq_none (by rw [HBN.out];omega)];rfl
  obtain⟨b,hbb⟩:∃ b,bits.getD i false=b:=⟨_,rfl⟩;rw [hbb] at hbit hbit2;have HMB:=Mw (show gD bits m i (r,c)=(b != eB m c r) by unfold gD;rw [hbb])
  clear hp c1 c2 hmem htk hbb;obtain⟨o,ho⟩:∃ o,o=Obj.cells #[.int .i64 (r:Int),.int .i64 (c:Int)] 118:=⟨_,rfl⟩;have hBR3:=HBR.out.below (ai (Below.refl _ _) o) (My _);obtain⟨z1,zb,zc,⟨zcs,zk⟩,z2⟩:=hBR3.row r hrn;have z3:=z2 c hcn;have z4:(wr.alloc o).frozen? ⟨q r,c,none⟩=false:=Blk.frozen zk c;have zn:Blk (wr.alloc o) wr.heap.size 118 #[.int .i64 (r:Int),.int .i64 (c:Int)]:=by rw [ho];exact Blk.new _ _ _
  have z5:(wr.alloc o).cell? ⟨wr.heap.size,0,none⟩=some (.int .i64 (r:Int)):=Blk.cell zn 0;have z6:(wr.alloc o).cell? ⟨wr.heap.size,1,none⟩=some (.int .i64 (c:Int)):=Blk.cell zn 1;have HF:=Mw (show ∀ W u,Below (wr.alloc o).heap.size (wr.alloc o) W->u=gD bits m i (r,c)->cP (W.setCell ⟨q r,c,none⟩ (.bool u)) w.heap.size gg n q cp (dC (gD bits m) (xs.take (i+1)) 0 cf)/\Blk (W.setCell ⟨q r,c,none⟩ (.bool u)) qw 118 CS/\Below w.heap.size w (W.setCell ⟨q r,c,none⟩ (.bool u)) from fun W u hW hu=>by
   have hbr:=(hBR3.below hW (My _)).set r c u hrn hcn;have hblk:=(HBLK.out.alloc o).below hW (Blk.lt (HBLK.out.alloc o));have hzk:=zk.below hW (Blk.lt zk);refine⟨?_,hblk.far (p:=⟨q r,c,none⟩) (bd hblk hzk (by decide)) _,Below.setc ((HB.out.alloc HB.out.size o).trans (hW.mono ?_)) zb _⟩
   ·rw [HNX.out];rw [hu] at hbr ⊢;exact hbr
   exact Nat.le_trans HB.out.size (ai (Below.refl wr.heap.size wr) o).size)
  have r2:i<nb->(wr.alloc o).cell? ⟨qb,i,none⟩=some (.bool b):=fun h=>tV (ai (Below.refl _ _) o) (hbit h)
  obtain⟨qr,hqr⟩:∃ qr,q r=qr:=⟨_,rfl⟩;obtain⟨cr,hcr⟩:∃ cr,cp r=cr:=⟨_,rfl⟩;rw [hqr,hcr] at z1;rw [hqr] at z3 z4 HF;obtain⟨old,hold⟩:∃ old,dC (gD bits m) (xs.take i) 0 cf r c=old:=⟨_,rfl⟩;rw [hold] at z3;have KM:=Mw (fun W=>Jj W m c r HM8.out (by omega) (by omega));obtain⟨mb,hmb⟩:∃ mb,eB m c r=mb:=⟨_,rfl⟩;rw [hmb] at KM HMB;have HBLK':=HBLK;clear hBR3 zb zc zk z2 zn hbit HNX HBR HBLK HB hqr hcr hold hmb;subst ho;by_cases hin:i<nb
  ·have r2:=r2 hin;clear hbit2
   go_wp2
   clear r0 r1 r2;obtain⟨w3,hw3⟩:∃ w3,w3=wr.alloc (Obj.cells #[.int .i64 (r:Int),.int .i64 (c:Int)] 118):=⟨_,rfl⟩;rw [<- hw3] at z1 z3 z4 z5 z6 HF ⊢;obtain⟨pn,hpn⟩:∃ pn,pn=wr.heap.size:=⟨_,rfl⟩;rw [<- hpn] at z5 z6 ⊢;clear hw3 hpn;have km:∀ W,Calls Tryz.prog 65 #[.int .i64 (m:Int),.int .i64 (c:Int),.int .i64 (r:Int)] W fun e w'=>e=.returned (.bool mb)/\∃ j,w'=W.drewN j:=fun W=>(KM.out W).mono fun _ _ h=>⟨h.1,h.2.out⟩
   have e1:=eq_true (show (0:Int)<=(r:Int) by omega);have e2:=eq_true (show (r:Int)<(n:Int) by omega);have e3:=eq_true (show (0:Int)<=(c:Int) by omega);have e4:=eq_true (show (c:Int)<(n:Int) by omega);have HFN:=Mw (fun k=>HF.out (w3.drewN k) (!b==mb) (au (Below.refl _ _) k) (by rw [HMB.out];cases b<;>cases mb<;>rfl))
   refine ji (n:=17) (S:=fun w'=>w'.cell? ⟨pn,0,none⟩=some (.int .i64 (r:Int))/\w'.cell? ⟨gg,r,none⟩=some (.slice (some ⟨qr,0,none⟩) n cr)/\w'.cell? ⟨pn,1,none⟩=some (.int .i64 (c:Int))) (ds:=[16]) #[false,false,false,false,false,false,false,false,false,false,false,false,false,false,false,false,false] (by kernel_rfl) rfl rfl ⟨z5,z1,z6⟩ (fun hHeld=>?_);refine jn zX zY (fun HT_ HW_=>?_);refine pu_ 0 35 HT_ ?_;refine pu_ 1 36 HT_ ?_;refine pu_ 5 40 HT_ ?_;refine pu_ 7 42 HT_ ?_;refine pu_ 8 43 HT_ ?_;refine pu_ 9 44 HT_ ?_;refine pu_ 11 46 HT_ ?_;refine ta_ 2 37 HT_ HW_ hHeld ?_;refine pu_ 3 38 HT_ ?_;refine ta_ 4 39 HT_ HW_ hHeld ?_;refine ta_ 6 41 HT_ HW_ hHeld ?_;refine ta_ 10 45 HT_ HW_ hHeld ?_;refine ta_ 12 47 HT_ HW_ hHeld ?_;refine hJ (i:=13) (N:=some 48) #[true,true,true,true,true,true,true,true,true,true,true,true,true,true,false,false,false] rfl rfl (dJ HT_.out (by kernel_rfl)) (by decide) (fun K hK=>?_);refine ia Tryz.func65 (by kernel_rfl) rfl #[.int .i64 (m:Int),.int .i64 (c:Int),.int .i64 (r:Int)] (by rfl) rfl rfl (by (try simp only [List.map_toArray,List.map_cons,List.map_nil]);first | done | rfl) ?_
   refine (km _).mono ?_;rintro e0 w5 ⟨rfl,nd,rfl⟩;refine⟨_,rfl,?_⟩;refine hK.out _ _ ⟨z5,z1,z6⟩ (fun hHeld=>?_);clear hK K;refine no_ ?_;refine pu_ 14 49 HT_ ?_;refine pu_ 15 50 HT_ ?_;refine jj (i:=16) (N:=none) #[true,true,true,true,true,true,true,true,true,true,true,true,true,true,true,true,true] rfl rfl (dJ HT_.out (by kernel_rfl)) (by decide) (fun K hK=>?_);refine jl (w1:=?_) (by rfl) rfl ?_ ?_;rotate_left
   ·go_simp
    rfl
   refine hK.out _ _ ?_;clear hK K;refine jk (jm HT_.out (by kernel_rfl)) ?_;clear z1 z3 z4 z5 z6 hHeld HT_ HW_ km e1 e2 e3 e4
   go_wp2
   go_roundw
   case rel=>first | exact⟨i+1,by go_num,by omega,⟨(HFN.out _).1⟩,⟨(HFN.out _).2.1⟩,⟨(HFN.out _).2.2⟩⟩ | ((repeat apply Exists.intro);exact⟨⟨i+1,by go_num,by omega,⟨(HFN.out _).1⟩,⟨(HFN.out _).2.1⟩,⟨(HFN.out _).2.2⟩⟩,rfl⟩)
   case measure=>show ((M:Int)-((i:Int)+1)).toNat<((M:Int)-(i:Int)).toNat;omega
  have hb0:=hbit2 hin;subst hb0;clear hbit2 r2
  go_wp2
  clear r0 r1;obtain⟨w3,hw3⟩:∃ w3,w3=wr.alloc (Obj.cells #[.int .i64 (r:Int),.int .i64 (c:Int)] 118):=⟨_,rfl⟩;rw [<- hw3] at z1 z3 z4 z5 z6 HF ⊢;obtain⟨pn,hpn⟩:∃ pn,pn=wr.heap.size:=⟨_,rfl⟩;rw [<- hpn] at z5 z6 ⊢;clear hw3 hpn;have km:∀ W,Calls Tryz.prog 65 #[.int .i64 (m:Int),.int .i64 (c:Int),.int .i64 (r:Int)] W fun e w'=>e=.returned (.bool mb)/\∃ j,w'=W.drewN j:=fun W=>(KM.out W).mono fun _ _ h=>⟨h.1,h.2.out⟩
  have e1:=eq_true (show (0:Int)<=(r:Int) by omega);have e2:=eq_true (show (r:Int)<(n:Int) by omega);have e3:=eq_true (show (0:Int)<=(c:Int) by omega);have e4:=eq_true (show (c:Int)<(n:Int) by omega);have HFN:=Mw (fun k=>HF.out (w3.drewN k) mb (au (Below.refl _ _) k) (by rw [HMB.out];cases mb<;>rfl))
  refine ji (n:=17) (S:=fun w'=>w'.cell? ⟨pn,0,none⟩=some (.int .i64 (r:Int))/\w'.cell? ⟨gg,r,none⟩=some (.slice (some ⟨qr,0,none⟩) n cr)/\w'.cell? ⟨pn,1,none⟩=some (.int .i64 (c:Int))) (ds:=[16]) #[false,false,false,false,false,false,false,false,false,false,false,false,false,false,false,false,false] (by kernel_rfl) rfl rfl ⟨z5,z1,z6⟩ (fun hHeld=>?_);refine jn zX zY (fun HT_ HW_=>?_);refine pu_ 0 35 HT_ ?_;refine pu_ 1 36 HT_ ?_;refine pu_ 5 40 HT_ ?_;refine pu_ 7 42 HT_ ?_;refine pu_ 8 43 HT_ ?_;refine pu_ 9 44 HT_ ?_;refine pu_ 11 46 HT_ ?_;refine ta_ 2 37 HT_ HW_ hHeld ?_;refine pu_ 3 38 HT_ ?_;refine ta_ 4 39 HT_ HW_ hHeld ?_;refine ta_ 6 41 HT_ HW_ hHeld ?_;refine ta_ 10 45 HT_ HW_ hHeld ?_;refine ta_ 12 47 HT_ HW_ hHeld ?_;refine hJ (i:=13) (N:=some 48) #[true,true,true,true,true,true,true,true,true,true,true,true,true,true,false,false,false] rfl rfl (dJ HT_.out (by kernel_rfl)) (by decide) (fun K hK=>?_);refine ia Tryz.func65 (by kernel_rfl) rfl #[.int .i64 (m:Int),.int .i64 (c:Int),.int .i64 (r:Int)] (by rfl) rfl rfl (by (try simp only [List.map_toArray,List.map_cons,List.map_nil]);first | done | rfl) ?_
  refine (km _).mono ?_;rintro e0 w5 ⟨rfl,nd,rfl⟩;refine⟨_,rfl,?_⟩;refine hK.out _ _ ⟨z5,z1,z6⟩ (fun hHeld=>?_);clear hK K;refine no_ ?_;refine pu_ 14 49 HT_ ?_;refine pu_ 15 50 HT_ ?_;refine jj (i:=16) (N:=none) #[true,true,true,true,true,true,true,true,true,true,true,true,true,true,true,true,true] rfl rfl (dJ HT_.out (by kernel_rfl)) (by decide) (fun K hK=>?_);refine jl (w1:=?_) (by rfl) rfl ?_ ?_;rotate_left
  ·go_simp
   rfl
  refine hK.out _ _ ?_;clear hK K;refine jk (jm HT_.out (by kernel_rfl)) ?_;clear z1 z3 z4 z5 z6 hHeld HT_ HW_ km e1 e2 e3 e4
  go_wp2
  go_roundw
  case rel=>first | exact⟨i+1,by go_num,by omega,⟨(HFN.out _).1⟩,⟨(HFN.out _).2.1⟩,⟨(HFN.out _).2.2⟩⟩ | ((repeat apply Exists.intro);exact⟨⟨i+1,by go_num,by omega,⟨(HFN.out _).1⟩,⟨(HFN.out _).2.1⟩,⟨(HFN.out _).2.2⟩⟩,rfl⟩)
  case measure=>show ((M:Int)-((i:Int)+1)).toNat<((M:Int)-(i:Int)).toNat;omega
end Go.Proofs.YtgccjgpdjkhpdaaGreat.B
namespace Go.Proofs.YtgccjgpdjkhpdaaGreat.B
open Go.RowKit Go.Proofs.YtgccjgpdjkhpdaaGreatW.PrintWords Go.Proofs.YtgccjgpdjkhpdaaGreatW.PrintLast Go.Proofs.YtgccjgpdjkhpdaaGreatW.PrintMore
set_option linter.unusedVariables false
set_option linter.unusedSimpArgs false
theorem z7 (v l:Nat)(hv:1<=v/\v<=40)(hl:l<4):0<cz v l/\cz v l<=5000:=by
 have L:=eD v l hv hl;have h1:=L.tot;have h2:=(jp v hv).2;have h3:0<aN v l*(av v l+aE v l):=Nat.mul_pos L.d1 (by have:=L.c1;omega)
 unfold cz;omega
theorem Jo (v:Nat)(hv:1<=v/\v<=40):0<bW v/8/\bW v/8<=5000:=by
 have L:=eD v 0 hv (by decide);have h1:=L.tot;have h2:=(jp v hv).2;have h3:0<aN v 0*(av v 0+aE v 0):=Nat.mul_pos L.d1 (by have:=L.c1;omega)
 omega
def nT (v l:Nat)(ws:List Nat):List Nat:=gM (av v l) (aN v l) (aE v l) (aW v l) fun k i=>(eV (av v l) (aN v l) (aW v l) ws k).getD i 0
theorem cP.mono {w:World}{B B' g n:Nat}{q cp:Nat->Nat}{cf:Nat->Nat->Bool}(h:cP w B g n q cp cf)(hb:B'<=B):cP w B' g n q cp cf :=
 ⟨Nat.le_trans hb h.base,h.blk,fun r hr=>by obtain⟨k1,k2,k3⟩:=h.row r hr;exact⟨k1,Nat.le_trans hb k2,k3⟩,h.inj⟩
theorem Jp {w:World}{base:Nat}{v:Value}{xs:List Bool}(h:cJ w base v xs)(h0:0<xs.length) :
  ∃ q c,v=.slice (some ⟨q,0,none⟩) xs.length c/\q<w.heap.size/\∀ i,i<xs.length->w.cell? ⟨q,i,none⟩=some (.bool (xs.getD i false)):=by
 obtain⟨hlen,h2⟩:=h;rcases h2 with⟨_,h3⟩ | ⟨q,c,cs,rfl,hb,hh,hc,hm,hs,ht⟩
 ·omega
 refine⟨q,c,rfl,Blk.lt hh,fun i hi=>?_⟩;rw [Blk.cell hh i];have h5:(cs.toList.take xs.length)[i]? = (jh xs)[i]?:=by rw [Nat.mul_one] at ht;rw [ht]
 rw [List.getElem?_take_of_lt hi] at h5;rw [<- MD,h5];simp [jh,List.getElem?_map,ME hi,MC]
theorem Jq {w:World}{base nb:Nat}{v:Value}{xs:List Bool}(h:cJ w base v xs)(hn:xs.length=nb)(h0:0<nb) :
  ∃ q c,v=.slice (some ⟨q,0,none⟩) nb c/\q<w.heap.size/\∀ i,i<nb->w.cell? ⟨q,i,none⟩=some (.bool (xs.getD i false)):=by
 subst hn;exact Jp h h0
set_option maxHeartbeats 1000000 in
theorem Jr (w:World)(A:Option Addr)(c n v l:Nat)(segs:List F.bl)(hS:Kd.C F.dU w A n segs)(hn:segs.length=n)(hv:1<=v/\v<=40)(hl:l<4)(hs:∀ s∈segs,lh s v)(hn2:n<=200)
  (hfit:¬ (cO (segs.map bI) v).length<=8*cz v l) :
  Calls Tryz.prog 32 #[.slice A n c,.int .i64 (v:Int),.int .i64 (l:Int)] w fun e w'=>e=.returned (.tuple #[.slice none 0 0,.bool false])/\Below w.heap.size w w':=by
 have k1:=zt w A c n v segs hS hn hv hs hn2;have K22:=Mw (fun W=>zx W v l hv hl);obtain⟨bits,hbits⟩:∃ bits,cO (segs.map bI) v=bits:=⟨_,rfl⟩;have hroom:=(z7 v l hv hl).2;obtain⟨room,hr⟩:∃ room,cz v l=room:=⟨_,rfl⟩;rw [hbits] at k1 hfit;rw [hr] at K22 hfit hroom;obtain⟨m,hm⟩:∃ m,bits.length=m:=⟨_,rfl⟩;rw [hm] at hfit;have hfit2:8*room<m:=by omega
 have HM:=Mw hm;clear hS hn hs hbits hr hv hl hm hfit
 go_enter Tryz.func32,Tryz.ntmps32
 go_wp2_with fail
 refine k1.mono ?_;rintro e w1 ⟨v1,rfl,hO1,hB1⟩;obtain⟨A1,c1,hv1⟩:=hO1.shape;rw [HM.out] at hv1;subst hv1;have HB1:=Mw hB1;clear hO1 hB1 k1
 go_wp2_with fail
 refine (K22.out w1).mono ?_;rintro e w2 ⟨rfl,hB2⟩;have HB2:=Mw (HB1.out.trans (hB2.mono HB1.out.size));clear hB2
 go_wp2_with fail
 go_ret2
 exact⟨rfl,HB2.out⟩
end Go.Proofs.YtgccjgpdjkhpdaaGreat.B
